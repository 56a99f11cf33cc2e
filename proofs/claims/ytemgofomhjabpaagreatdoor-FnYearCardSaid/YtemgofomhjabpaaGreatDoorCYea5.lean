/- Contracts and plain lemmas of this seat (part 5), merged by wip/merge2.py; what is proved stands in the claim's last text. -/
import Derived.Test.YtemgofomhjabpaaGreatDoorCYea1
import Derived.Test.YtemgofomhjabpaaGreatDoorCYea2
import Derived.Test.YtemgofomhjabpaaGreatDoorCYea3
import Derived.Test.YtemgofomhjabpaaGreatDoorCYea4
import Derived.Lib.Strings
import Derived.Laws.BitsAllLaws
import Derived.Test.YtemgofomhjabpaaGreatDoorProg
import Derived.WalkKit
import Derived.KernelRfl
import Derived.RowKit3
import Derived.WalkSpells
import Derived.WalkLawsBesides
import Derived.Below
import Derived.Outline
import Derived.Deep.QuietTactic
import Derived.BigQuiet
import Derived.Laws.Rows
namespace Go.Proofs.YtemgofomhjabpaaGreatDoor.Core
open Go.RowKit Go.Proofs.YtemgofomhjabpaaGreatDoorW.PrintWords Go.Proofs.YtemgofomhjabpaaGreatDoorW.PrintLast Go.Proofs.YtemgofomhjabpaaGreatDoorW.PrintMore
attribute [local go_sem] max2_int min2_int max_two min_two max_three min_three max_four min_four   -- for this text's walks alone
set_option linter.unusedVariables false
set_option linter.unusedSimpArgs false
noncomputable def laws_FnYear.j0 : Nat → Int → Bool → Int → Int → Int → Int → Int → Int → List (List (S38)) → Bool → Option (Bool)
 | 0, _, _, _, _, _, _, _, _, _, _ => none
 | k + 1, x1, x32, x395000, x395001, x395002, x395003, x395004, x395005, x401000, x401001 => if x32 = true then (some true) else ((spec_Text.f k x401000 x401001).bind fun t402 => (if t402.size + 1 ≤ 9223372036854775807 then ((spec_Decimal.f k x1).bind fun t403 => (if (t402 ++ (⟨#[32]⟩ : ByteArray)).size + t403.size ≤ 9223372036854775807 then ((impl_Due.f ((t402 ++ (⟨#[32]⟩ : ByteArray)) ++ t403) x395000 x395001 x395002 x395003 x395004 x395005).bind fun bt404 => ((spec_Text.f k x401000 x401001).bind fun t406 => (if t406.size + 1 ≤ 9223372036854775807 then ((spec_Decimal.f k x1).bind fun t407 => (if (t406 ++ (⟨#[32]⟩ : ByteArray)).size + t407.size ≤ 9223372036854775807 then ((impl_Parts.f k ((t406 ++ (⟨#[32]⟩ : ByteArray)) ++ t407)).bind fun bt408 => (if bt404.2 = true then (if bt408.2 = true then (if (bt408.1.length : Int) = 7 then (if 6 < (bt408.1.length : Int) then ((spec_Decimal.f k x1).bind fun t413 => (if (rdOf ByteArray.empty bt408.1 6).toList = t413.toList then (if x395000 = x1 then ((laws_moment.f x395000 x395001 x395002 x395003 x395004 x395005).bind fun bt414 => ((spec_Fits.f k x401000 x401001 bt414.1 bt414.2.1 bt414.2.2.1 bt414.2.2.2.1 bt414.2.2.2.2.1 bt414.2.2.2.2.2).bind fun t420 => (some (bt404.1 == t420)))) else (some (bt404.1 == false))) else (some false))) else (none)) else (some false)) else (some false)) else (some false))) else (none))) else (none)))) else (none))) else (none)))
noncomputable def laws_FnYear.f (k : Nat) (l0_0 : List (List (S69))) (a0_1 : Bool) (a1 : Int) (a2_0 : Int) (a2_1 : Int) (a2_2 : Int) (a2_3 : Int) (a2_4 : Int) (a2_5 : Int) : Option (Bool) := (laws_zzFits1.f k l0_0 a0_1).bind fun t395 => (if t395 = true then ((laws_expr.f k l0_0 a0_1).bind fun bt396 => ((laws_asked.f k bt396.1 bt396.2 a2_0 a2_1 a2_2 a2_3 a2_4 a2_5).bind fun t401 => (if t401 = true then (if bt396.2 = true then (laws_FnYear.j0 k a1 true a2_0 a2_1 a2_2 a2_3 a2_4 a2_5 bt396.1 bt396.2) else (if a1 < 1990 then (laws_FnYear.j0 k a1 true a2_0 a2_1 a2_2 a2_3 a2_4 a2_5 bt396.1 bt396.2) else (laws_FnYear.j0 k a1 (decide (a1 > 2090)) a2_0 a2_1 a2_2 a2_3 a2_4 a2_5 bt396.1 bt396.2))) else (laws_FnYear.j0 k a1 true a2_0 a2_1 a2_2 a2_3 a2_4 a2_5 bt396.1 bt396.2)))) else (some true))
def laws_FnYear.Y (m : Nat) : Array Bool := ((List.range 32).map fun i => m.testBit i).toArray
def laws_FnYear.T6 : Bool × List (List Nat × List Nat) := (true, [([], []), ([0], [0]), ([1], [1]), ([], []), ([3, 1], [3]), ([2, 4], [2, 4]), ([], []), ([5, 6, 4], [5, 6]), ([7], [7]), ([8], [8]), ([8], [8]), ([9, 7, 0, 1, 2, 3, 4, 5, 6, 7, 8, 9], [9]), ([10, 11, 0, 1, 2, 3, 4, 5, 6, 7, 8, 9, 10, 11], [10])])
def laws_FnYear.B6 : List Nat := [0, 1, 3, 0, 11, 31, 0, 127, 255, 511, 511, 1023, 4095]
theorem laws_FnYear.tab6 : rtab .any (opsOf Tryz.f9 6) = laws_FnYear.T6 := by kernel_rfl
theorem laws_FnYear.bits6 : waitsOk laws_FnYear.T6.2 laws_FnYear.B6 = true := by kernel_rfl
def laws_FnYear.T8 : Bool × List (List Nat × List Nat) := (true, [([], []), ([0], [0]), ([1], [1]), ([1, 2], [1, 2]), ([3, 1], [3]), ([4], [4]), ([5, 4], [4, 5]), ([6, 4], [4, 6]), ([4, 7], [4, 7]), ([8, 4], [8]), ([9], [9]), ([10, 9], [9, 10]), ([11, 9], [9, 11]), ([9], [9]), ([13, 9, 9], [9, 13]), ([12, 14, 9], [9, 12, 14]), ([9, 15], [9, 15]), ([16, 14], [16]), ([17], [17]), ([17], [17]), ([19, 17], [17, 19]), ([17], [17]), ([20, 21, 17], [17, 20, 21]), ([22, 17, 17], [17, 22]), ([23], [23]), ([23], [23]), ([25, 23, 23], [23, 25]), ([24, 26, 26, 23], [23, 24, 26]), ([23, 27, 17], [17, 23, 27]), ([18, 28, 17], [17, 18, 28]), ([17, 29], [17, 29]), ([30, 27, 0, 1, 2, 3, 4, 5, 6, 7, 8, 9, 10, 11, 12, 13, 14, 15, 16, 17, 18, 19, 20, 21, 22, 23, 24, 25, 26, 27, 28, 29, 30], [30])])
def laws_FnYear.B8 : List Nat := [0, 1, 3, 7, 15, 31, 63, 127, 255, 511, 1023, 2047, 4095, 1023, 9215, 32767, 65535, 131071, 262143, 262143, 786431, 262143, 3932159, 8126463, 16515071, 16515071, 50069503, 133955583, 268173311, 536870911, 1073741823, 2147483647]
theorem laws_FnYear.tab8 : rtab .any (opsOf Tryz.f9 8) = laws_FnYear.T8 := by kernel_rfl
theorem laws_FnYear.bits8 : waitsOk laws_FnYear.T8.2 laws_FnYear.B8 = true := by kernel_rfl
set_option maxHeartbeats 8000000 in
set_option maxRecDepth 100000 in
theorem laws_FnYear.calls (k : Nat) (A0_0 : Option Addr) (c0_0 : Nat) (l0_0 : List (List (S69))) (a0_1 : Bool) (a1 : Int) (a2_0 : Int) (a2_1 : Int) (a2_2 : Int) (a2_3 : Int) (a2_4 : Int) (a2_5 : Int) (r : Bool) (w : World) (hr0_0 : Kd.C (Kd.slice 69 k69) w A0_0 l0_0.length l0_0) (hc0_0 : l0_0.length ≤ c0_0) (hr_ : Aside0 (r = true)) (h : laws_FnYear.f k l0_0 a0_1 a1 a2_0 a2_1 a2_2 a2_3 a2_4 a2_5 = some r) :
  Calls Tryz.prog 9 #[.agg #[.slice A0_0 l0_0.length c0_0, .bool a0_1], .int .i64 a1, .agg #[.int .i64 a2_0, .int .i64 a2_1, .int .i64 a2_2, .int .i64 a2_3, .int .i64 a2_4, .int .i64 a2_5]] w fun e w' => e = .returned (.bool r) ∧ Below w.heap.size w w' := by
 have hu24 := Tryz.underlying24
 have hu26 := Tryz.underlying26
 have hu30 := Tryz.underlying30
 have HR0_0 := Aside0.mk hr0_0
 have HC0_0 := Aside0.mk hc0_0
 clear hr0_0 hc0_0
 have HB := Aside0.mk (Below.refl w.heap.size w)
 have H : ((laws_zzFits1.f k l0_0 a0_1).bind fun t395 => (if t395 = true then ((laws_expr.f k l0_0 a0_1).bind fun bt396 => ((laws_asked.f k bt396.1 bt396.2 a2_0 a2_1 a2_2 a2_3 a2_4 a2_5).bind fun t401 => (if t401 = true then (if bt396.2 = true then (laws_FnYear.j0 k a1 true a2_0 a2_1 a2_2 a2_3 a2_4 a2_5 bt396.1 bt396.2) else (if a1 < 1990 then (laws_FnYear.j0 k a1 true a2_0 a2_1 a2_2 a2_3 a2_4 a2_5 bt396.1 bt396.2) else (laws_FnYear.j0 k a1 (decide (a1 > 2090)) a2_0 a2_1 a2_2 a2_3 a2_4 a2_5 bt396.1 bt396.2))) else (laws_FnYear.j0 k a1 true a2_0 a2_1 a2_2 a2_3 a2_4 a2_5 bt396.1 bt396.2)))) else (some true))) = some r := h
 clear h
 replace H := Option.bind_eq_some_iff.mp H
 obtain ⟨t395, A40, H⟩ := H
 replace H : (if t395 = true then ((laws_expr.f k l0_0 a0_1).bind fun bt396 => ((laws_asked.f k bt396.1 bt396.2 a2_0 a2_1 a2_2 a2_3 a2_4 a2_5).bind fun t401 => (if t401 = true then (if bt396.2 = true then (laws_FnYear.j0 k a1 true a2_0 a2_1 a2_2 a2_3 a2_4 a2_5 bt396.1 bt396.2) else (if a1 < 1990 then (laws_FnYear.j0 k a1 true a2_0 a2_1 a2_2 a2_3 a2_4 a2_5 bt396.1 bt396.2) else (laws_FnYear.j0 k a1 (decide (a1 > 2090)) a2_0 a2_1 a2_2 a2_3 a2_4 a2_5 bt396.1 bt396.2))) else (laws_FnYear.j0 k a1 true a2_0 a2_1 a2_2 a2_3 a2_4 a2_5 bt396.1 bt396.2)))) else (some true)) = some r := H
 have A4 := Aside0.mk A40
 clear A40
 by_cases c5 : t395 = true
 ·subst c5
  have H1 : ((laws_expr.f k l0_0 a0_1).bind fun bt396 => ((laws_asked.f k bt396.1 bt396.2 a2_0 a2_1 a2_2 a2_3 a2_4 a2_5).bind fun t401 => (if t401 = true then (if bt396.2 = true then (laws_FnYear.j0 k a1 true a2_0 a2_1 a2_2 a2_3 a2_4 a2_5 bt396.1 bt396.2) else (if a1 < 1990 then (laws_FnYear.j0 k a1 true a2_0 a2_1 a2_2 a2_3 a2_4 a2_5 bt396.1 bt396.2) else (laws_FnYear.j0 k a1 (decide (a1 > 2090)) a2_0 a2_1 a2_2 a2_3 a2_4 a2_5 bt396.1 bt396.2))) else (laws_FnYear.j0 k a1 true a2_0 a2_1 a2_2 a2_3 a2_4 a2_5 bt396.1 bt396.2)))) = some r := by rw [if_pos rfl] at H; exact H
  clear H
  have H := H1
  clear H1
  replace H := Option.bind_eq_some_iff.mp H
  obtain ⟨⟨t396, t399⟩, A60, H⟩ := H
  replace H : ((laws_asked.f k t396 t399 a2_0 a2_1 a2_2 a2_3 a2_4 a2_5).bind fun t401 => (if t401 = true then (if t399 = true then (laws_FnYear.j0 k a1 true a2_0 a2_1 a2_2 a2_3 a2_4 a2_5 t396 t399) else (if a1 < 1990 then (laws_FnYear.j0 k a1 true a2_0 a2_1 a2_2 a2_3 a2_4 a2_5 t396 t399) else (laws_FnYear.j0 k a1 (decide (a1 > 2090)) a2_0 a2_1 a2_2 a2_3 a2_4 a2_5 t396 t399))) else (laws_FnYear.j0 k a1 true a2_0 a2_1 a2_2 a2_3 a2_4 a2_5 t396 t399))) = some r := H
  have A6 := Aside0.mk A60
  clear A60
  have HC7 := Aside0.mk H
  clear H
  go_enter Tryz.func9, Tryz.ntmps9
  go_upto_region 4 with (first | ((with_reducible refine gate_dst (N := 3) rfl ?_); (try (refine gate_guard (by rfl) ?_; dsimp only)); refine box_event ?hg (N := 3) ?hd (cs := #[.slice A0_0 l0_0.length c0_0, .bool a0_1]) (t := 24) ?hr ?_; (case hd => rfl); (case hg => rfl); (case hr => first | (go_simp; done) | (go_simp; rfl)); intro gb393 hg w8 hbox hb; have n0_ := Aside0.mk (below_step (by repeat (first | (with_reducible first | exact HB.out | apply below_alloc | apply pw_below_drewN | apply below_drew1) | exact HB.out)) hb); have n1_ := Aside0.mk (hbox); have n2_ := Aside0.mk ((by rw [hg]; exact (below_size (by repeat (first | (with_reducible first | exact HB.out | apply below_alloc | apply pw_below_drewN | apply below_drew1) | exact HB.out))) : w.heap.size ≤ gb393)); have n3_ := Aside0.mk ((by rw [hg]; exact (below_size (by repeat (first | (with_reducible first | exact HB.out | apply below_alloc | apply pw_below_drewN | apply below_drew1) | exact HB.out))) : w.heap.size ≤ gb393)); clear HB; have HB := n0_; have BK393 := n1_; have GW393 := n2_; have GE393 := n3_; clear n0_ n1_ n2_ n3_; clear hb hbox hg) | ((with_reducible refine gate_dst (N := 5) rfl ?_); (try (refine gate_guard (by rfl) ?_; dsimp only)); refine box_event ?hg (N := 5) ?hd (cs := #[.int .i64 a2_0, .int .i64 a2_1, .int .i64 a2_2, .int .i64 a2_3, .int .i64 a2_4, .int .i64 a2_5]) (t := 26) ?hr ?_; (case hd => rfl); (case hg => rfl); (case hr => first | (go_simp; done) | (go_simp; rfl)); intro gb394 hg w9 hbox hb; have n0_ := Aside0.mk (blk_below (g := gb393) (o := .cells #[.slice A0_0 l0_0.length c0_0, .bool a0_1] 24 (0, 0)) (by (with_reducible repeat (first | refine blk_drewN ?_ _ | refine blk_drew ?_ | refine blk_alloc ?_ _)); exact BK393.out) hb); have n1_ := Aside0.mk (below_step (by repeat (first | (with_reducible first | exact HB.out | apply below_alloc | apply pw_below_drewN | apply below_drew1 | refine below_set ?_ GE393.out) | exact HB.out)) hb); have n2_ := Aside0.mk (hbox); have n3_ := Aside0.mk ((by rw [hg]; exact (below_size (by repeat (first | (with_reducible first | exact HB.out | apply below_alloc | apply pw_below_drewN | apply below_drew1 | refine below_set ?_ GE393.out) | exact HB.out))) : w.heap.size ≤ gb394)); have n4_ := Aside0.mk ((by rw [hg]; exact (below_size (by repeat (first | (with_reducible first | exact HB.out | apply below_alloc | apply pw_below_drewN | apply below_drew1 | refine below_set ?_ GE393.out) | exact HB.out))) : w.heap.size ≤ gb394)); have n5_ := Aside0.mk ((by rw [hg]; exact Nat.ne_of_lt (blk_lt (g := gb393) (o := .cells #[.slice A0_0 l0_0.length c0_0, .bool a0_1] 24 (0, 0)) (by (with_reducible repeat (first | refine blk_drewN ?_ _ | refine blk_drew ?_ | refine blk_alloc ?_ _)); exact BK393.out)) : gb393 ≠ gb394)); have n6_ := Aside0.mk ((by rw [hg]; exact Nat.ne_of_gt (blk_lt (g := gb393) (o := .cells #[.slice A0_0 l0_0.length c0_0, .bool a0_1] 24 (0, 0)) (by (with_reducible repeat (first | refine blk_drewN ?_ _ | refine blk_drew ?_ | refine blk_alloc ?_ _)); exact BK393.out)) : gb394 ≠ gb393)); clear BK393; clear HB; have BK393 := n0_; have HB := n1_; have BK394 := n2_; have GW394 := n3_; have GE394 := n4_; have NB393_394 := n5_; have NB394_393 := n6_; clear n0_ n1_ n2_ n3_ n4_ n5_ n6_; clear hb hbox hg; have hnb10 := NB393_394.out; have hnc10 := NB394_393.out; have hcz11_0 : w9.cell? ⟨gb393, 0, none⟩ = some (.slice A0_0 l0_0.length c0_0) := (blk_cell BK393.out 0).trans rfl; have hcz11_1 : w9.cell? ⟨gb393, 1, none⟩ = some (.bool a0_1) := (blk_cell BK393.out 1).trans rfl; have hfz11_0 := blk_frozen BK393.out 0; have hfz11_1 := blk_frozen BK393.out 1) | ((with_reducible refine gate_callee (f := 11) rfl ?_); refine goesL_ (some 13) rfl rfl Tryz.func11 (by kernel_rfl) rfl #[.agg #[.slice A0_0 l0_0.length c0_0, .bool a0_1]] rfl (by (try simp only [List.map_toArray, List.map_cons, List.map_nil]); first | done | rfl | (simp only [List.length_drop, List.length_take]; rfl)) ?_; (with_reducible refine (laws_zzFits1.calls k _ _ l0_0 a0_1 true _ ?side1 ?side2 A4.out).mono ?_); (case side1 => repeat (first | exact (Kd.C_below HR0_0.out HB.out) | (with_reducible refine Kd.C_alloc ?_ _) | (with_reducible refine Kd.C_drewN ?_ _) | (with_reducible refine Kd.C_drew ?_))); (case side2 => exact HC0_0.out); rintro e w12 ⟨rfl, hb⟩; refine ⟨_, rfl, ?_⟩; have n0_ := Aside0.mk (blk_below (g := gb393) (o := .cells #[.slice A0_0 l0_0.length c0_0, .bool a0_1] 24 (0, 0)) (by (with_reducible repeat (first | refine blk_drewN ?_ _ | refine blk_drew ?_ | refine blk_alloc ?_ _)); exact BK393.out) hb); have n1_ := Aside0.mk (blk_below (g := gb394) (o := .cells #[.int .i64 a2_0, .int .i64 a2_1, .int .i64 a2_2, .int .i64 a2_3, .int .i64 a2_4, .int .i64 a2_5] 26 (0, 0)) (by (with_reducible repeat (first | refine blk_drewN ?_ _ | refine blk_drew ?_ | refine blk_alloc ?_ _)); exact BK394.out) hb); have n2_ := Aside0.mk (below_step (by repeat (first | (with_reducible first | exact HB.out | apply below_alloc | apply pw_below_drewN | apply below_drew1 | refine below_set ?_ GE393.out | refine below_set ?_ GE394.out) | exact HB.out)) hb); clear BK393; clear BK394; clear HB; have BK393 := n0_; have BK394 := n1_; have HB := n2_; clear n0_ n1_ n2_; (try clear hb); (try clear hb2); (try clear hk); (try clear hi); have hcz13_0 : w12.cell? ⟨gb393, 0, none⟩ = some (.slice A0_0 l0_0.length c0_0) := (blk_cell BK393.out 0).trans rfl; have hcz13_1 : w12.cell? ⟨gb393, 1, none⟩ = some (.bool a0_1) := (blk_cell BK393.out 1).trans rfl; have hfz13_0 := blk_frozen BK393.out 0; have hfz13_1 := blk_frozen BK393.out 1) | ((with_reducible refine gate_callee (f := 12) rfl ?_); refine goesL_ (some 16) rfl rfl Tryz.func12 (by kernel_rfl) rfl #[.agg #[.slice A0_0 l0_0.length c0_0, .bool a0_1]] rfl (by (try simp only [List.map_toArray, List.map_cons, List.map_nil]); first | done | rfl | (simp only [List.length_drop, List.length_take]; rfl)) ?_; (with_reducible refine (laws_expr.calls k _ _ l0_0 a0_1 t396 t399 _ ?side1 ?side2 A6.out).mono ?_); (case side1 => repeat (first | exact (Kd.C_below HR0_0.out HB.out) | (with_reducible refine Kd.C_alloc ?_ _) | (with_reducible refine Kd.C_drewN ?_ _) | (with_reducible refine Kd.C_drew ?_))); (case side2 => exact HC0_0.out); rintro e w14 ⟨v397, rfl, ho0, hb⟩; refine ⟨_, rfl, ?_⟩; have n0_ := Aside0.mk (Kd.S_lower ho0 (below_size (by repeat (first | (with_reducible first | exact HB.out | apply below_alloc | apply pw_below_drewN | apply below_drew1 | refine below_set ?_ GE393.out | refine below_set ?_ GE394.out) | exact HB.out)))); have n1_ := Aside0.mk (blk_below (g := gb393) (o := .cells #[.slice A0_0 l0_0.length c0_0, .bool a0_1] 24 (0, 0)) (by (with_reducible repeat (first | refine blk_drewN ?_ _ | refine blk_drew ?_ | refine blk_alloc ?_ _)); exact BK393.out) hb); have n2_ := Aside0.mk (blk_below (g := gb394) (o := .cells #[.int .i64 a2_0, .int .i64 a2_1, .int .i64 a2_2, .int .i64 a2_3, .int .i64 a2_4, .int .i64 a2_5] 26 (0, 0)) (by (with_reducible repeat (first | refine blk_drewN ?_ _ | refine blk_drew ?_ | refine blk_alloc ?_ _)); exact BK394.out) hb); have n3_ := Aside0.mk (below_step (by repeat (first | (with_reducible first | exact HB.out | apply below_alloc | apply pw_below_drewN | apply below_drew1 | refine below_set ?_ GE393.out | refine below_set ?_ GE394.out) | exact HB.out)) hb); clear BK393; clear BK394; clear HB; have HO398 := n0_; have BK393 := n1_; have BK394 := n2_; have HB := n3_; clear n0_ n1_ n2_ n3_; (try clear hb); (try clear hb2); (try clear hk); (try clear hi); (try clear ho0)) | ((with_reducible refine gate_dst (N := 7) rfl ?_); (try (refine gate_guard (by rfl) ?_; dsimp only)); refine box_event ?hg (N := 7) ?hd (cs := #[.slice none 0 0, .bool false]) (t := 30) ?hr ?_; (case hd => rfl); (case hg => rfl); (case hr => first | (go_simp; done) | (go_simp; rfl)); intro gb400 hg w15 hbox hb; have n0_ := Aside0.mk (Kd.S_below (by (with_reducible repeat (first | apply Kd.S_alloc | apply Kd.S_drewN | apply Kd.S_drew)); exact HO398.out) hb); have n1_ := Aside0.mk (blk_below (g := gb393) (o := .cells #[.slice A0_0 l0_0.length c0_0, .bool a0_1] 24 (0, 0)) (by (with_reducible repeat (first | refine blk_drewN ?_ _ | refine blk_drew ?_ | refine blk_alloc ?_ _)); exact BK393.out) hb); have n2_ := Aside0.mk (blk_below (g := gb394) (o := .cells #[.int .i64 a2_0, .int .i64 a2_1, .int .i64 a2_2, .int .i64 a2_3, .int .i64 a2_4, .int .i64 a2_5] 26 (0, 0)) (by (with_reducible repeat (first | refine blk_drewN ?_ _ | refine blk_drew ?_ | refine blk_alloc ?_ _)); exact BK394.out) hb); have n3_ := Aside0.mk (below_step (by repeat (first | (with_reducible first | exact HB.out | apply below_alloc | apply pw_below_drewN | apply below_drew1 | refine below_set ?_ GE393.out | refine below_set ?_ GE394.out) | exact HB.out)) hb); have n4_ := Aside0.mk (hbox); have n5_ := Aside0.mk ((by rw [hg]; exact (below_size (by repeat (first | (with_reducible first | exact HB.out | apply below_alloc | apply pw_below_drewN | apply below_drew1 | refine below_set ?_ GE393.out | refine below_set ?_ GE394.out) | exact HB.out))) : w.heap.size ≤ gb400)); have n6_ := Aside0.mk ((by rw [hg]; exact (below_size (by repeat (first | (with_reducible first | exact HB.out | apply below_alloc | apply pw_below_drewN | apply below_drew1 | refine below_set ?_ GE393.out | refine below_set ?_ GE394.out) | exact HB.out))) : w.heap.size ≤ gb400)); have n7_ := Aside0.mk ((by rw [hg]; exact Nat.ne_of_lt (blk_lt (g := gb393) (o := .cells #[.slice A0_0 l0_0.length c0_0, .bool a0_1] 24 (0, 0)) (by (with_reducible repeat (first | refine blk_drewN ?_ _ | refine blk_drew ?_ | refine blk_alloc ?_ _)); exact BK393.out)) : gb393 ≠ gb400)); have n8_ := Aside0.mk ((by rw [hg]; exact Nat.ne_of_gt (blk_lt (g := gb393) (o := .cells #[.slice A0_0 l0_0.length c0_0, .bool a0_1] 24 (0, 0)) (by (with_reducible repeat (first | refine blk_drewN ?_ _ | refine blk_drew ?_ | refine blk_alloc ?_ _)); exact BK393.out)) : gb400 ≠ gb393)); have n9_ := Aside0.mk ((by rw [hg]; exact Nat.ne_of_lt (blk_lt (g := gb394) (o := .cells #[.int .i64 a2_0, .int .i64 a2_1, .int .i64 a2_2, .int .i64 a2_3, .int .i64 a2_4, .int .i64 a2_5] 26 (0, 0)) (by (with_reducible repeat (first | refine blk_drewN ?_ _ | refine blk_drew ?_ | refine blk_alloc ?_ _)); exact BK394.out)) : gb394 ≠ gb400)); have n10_ := Aside0.mk ((by rw [hg]; exact Nat.ne_of_gt (blk_lt (g := gb394) (o := .cells #[.int .i64 a2_0, .int .i64 a2_1, .int .i64 a2_2, .int .i64 a2_3, .int .i64 a2_4, .int .i64 a2_5] 26 (0, 0)) (by (with_reducible repeat (first | refine blk_drewN ?_ _ | refine blk_drew ?_ | refine blk_alloc ?_ _)); exact BK394.out)) : gb400 ≠ gb394)); clear HO398; clear BK393; clear BK394; clear HB; have HO398 := n0_; have BK393 := n1_; have BK394 := n2_; have HB := n3_; have BK400 := n4_; have GW400 := n5_; have GE400 := n6_; have NB393_400 := n7_; have NB400_393 := n8_; have NB394_400 := n9_; have NB400_394 := n10_; clear n0_ n1_ n2_ n3_ n4_ n5_ n6_ n7_ n8_ n9_ n10_; clear hb hbox hg; obtain ⟨Ao16, co16, eo16⟩ := Kd.S_slice HO398.out; subst eo16; have hnb17 := NB400_393.out; have hnc17 := NB393_400.out; have hnb18 := NB400_394.out; have hnc18 := NB394_400.out; have hcz19_0 : w15.cell? ⟨gb400, 0, none⟩ = some (.slice none 0 0) := (blk_cell BK400.out 0).trans rfl; have hcz19_1 : w15.cell? ⟨gb400, 1, none⟩ = some (.bool false) := (blk_cell BK400.out 1).trans rfl; have hfz19_0 := blk_frozen BK400.out 0; have hfz19_1 := blk_frozen BK400.out 1))
  (try simp only [Act.put, List.setIfInBounds_toArray, List.set_cons_zero, List.set_cons_succ])
  go_cut [32] (fun v32 wc => ∃ (kq : Nat) (x32_6 : Bool), v32 = .bool x32_6 ∧ Aside0 (laws_FnYear.j0 kq a1 x32_6 a2_0 a2_1 a2_2 a2_3 a2_4 a2_5 t396 t399 = some r) ∧ Aside0 (kq ≤ k) ∧ Aside0 (Kd.S (Kd.slice 38 k38) 36 wc w.heap.size (fun _ => True) (.slice Ao16 t396.length co16) t396) ∧ Aside0 (wc.heap[gb393]? = some (.cells #[(.slice A0_0 l0_0.length c0_0), .bool a0_1] 24 (0, 0))) ∧ Aside0 (wc.heap[gb394]? = some (.cells #[.int .i64 a2_0, .int .i64 a2_1, .int .i64 a2_2, .int .i64 a2_3, .int .i64 a2_4, .int .i64 a2_5] 26 (0, 0))) ∧ Aside0 (wc.heap[gb400]? = some (.cells #[(.slice Ao16 t396.length co16), .bool t399] 30 (0, 0))) ∧ Aside0 (Below w.heap.size w wc))
  case first =>
   have H := HC7.out
   clear HC7
   replace H := Option.bind_eq_some_iff.mp H
   obtain ⟨t401, A200, H⟩ := H
   replace H : (if t401 = true then (if t399 = true then (laws_FnYear.j0 k a1 true a2_0 a2_1 a2_2 a2_3 a2_4 a2_5 t396 t399) else (if a1 < 1990 then (laws_FnYear.j0 k a1 true a2_0 a2_1 a2_2 a2_3 a2_4 a2_5 t396 t399) else (laws_FnYear.j0 k a1 (decide (a1 > 2090)) a2_0 a2_1 a2_2 a2_3 a2_4 a2_5 t396 t399))) else (laws_FnYear.j0 k a1 true a2_0 a2_1 a2_2 a2_3 a2_4 a2_5 t396 t399)) = some r := H
   have A20 := Aside0.mk A200
   clear A200
   by_cases c21 : t401 = true
   ·subst c21
    have H1 : (if t399 = true then (laws_FnYear.j0 k a1 true a2_0 a2_1 a2_2 a2_3 a2_4 a2_5 t396 t399) else (if a1 < 1990 then (laws_FnYear.j0 k a1 true a2_0 a2_1 a2_2 a2_3 a2_4 a2_5 t396 t399) else (laws_FnYear.j0 k a1 (decide (a1 > 2090)) a2_0 a2_1 a2_2 a2_3 a2_4 a2_5 t396 t399))) = some r := by rw [if_pos rfl] at H; exact H
    clear H
    have H := H1
    clear H1
    by_cases c22 : t399 = true
    ·subst c22
     have H1 : (laws_FnYear.j0 k a1 true a2_0 a2_1 a2_2 a2_3 a2_4 a2_5 t396 true) = some r := by rw [if_pos rfl] at H; exact H
     clear H
     have H := H1
     clear H1
     have H' := Aside0.mk H
     clear H
     have hnb23 := NB400_393.out
     have hnc23 := NB393_400.out
     have hnb24 := NB400_394.out
     have hnc24 := NB394_400.out
     have hcz25_0 : w15.cell? ⟨gb400, 0, none⟩ = some (.slice none 0 0) := (blk_cell BK400.out 0).trans rfl
     have hcz25_1 : w15.cell? ⟨gb400, 1, none⟩ = some (.bool false) := (blk_cell BK400.out 1).trans rfl
     have hfz25_0 := blk_frozen BK400.out 0
     have hfz25_1 := blk_frozen BK400.out 1
     have hnb26 := NB394_393.out
     have hnc26 := NB393_394.out
     have hcz27_0 : w15.cell? ⟨gb394, 0, none⟩ = some (.int .i64 a2_0) := (blk_cell BK394.out 0).trans rfl
     have hcz27_1 : w15.cell? ⟨gb394, 1, none⟩ = some (.int .i64 a2_1) := (blk_cell BK394.out 1).trans rfl
     have hcz27_2 : w15.cell? ⟨gb394, 2, none⟩ = some (.int .i64 a2_2) := (blk_cell BK394.out 2).trans rfl
     have hcz27_3 : w15.cell? ⟨gb394, 3, none⟩ = some (.int .i64 a2_3) := (blk_cell BK394.out 3).trans rfl
     have hcz27_4 : w15.cell? ⟨gb394, 4, none⟩ = some (.int .i64 a2_4) := (blk_cell BK394.out 4).trans rfl
     have hcz27_5 : w15.cell? ⟨gb394, 5, none⟩ = some (.int .i64 a2_5) := (blk_cell BK394.out 5).trans rfl
     have hfz27_0 := blk_frozen BK394.out 0
     have hfz27_1 := blk_frozen BK394.out 1
     have hfz27_2 := blk_frozen BK394.out 2
     have hfz27_3 := blk_frozen BK394.out 3
     have hfz27_4 := blk_frozen BK394.out 4
     have hfz27_5 := blk_frozen BK394.out 5
     go_wp2_with (first | ((with_reducible refine gate_callee (f := 13) rfl ?_); refine goesL_ (some 19) rfl rfl Tryz.func13 (by kernel_rfl) rfl #[.agg #[.slice Ao16 t396.length co16, .bool true], .agg #[.int .i64 a2_0, .int .i64 a2_1, .int .i64 a2_2, .int .i64 a2_3, .int .i64 a2_4, .int .i64 a2_5]] rfl (by (try simp only [List.map_toArray, List.map_cons, List.map_nil]); first | done | rfl | (simp only [List.length_drop, List.length_take]; rfl)) ?_; (with_reducible refine (laws_asked.calls k _ _ t396 true a2_0 a2_1 a2_2 a2_3 a2_4 a2_5 true _ ?side1 ?side2 A20.out).mono ?_); (case side1 => refine (Kd.S_reads' (e := 36) (base := w.heap.size) (ok := fun k_ => True) (n := t396.length) (c := co16) ?_).2.2; exact (by (with_reducible repeat (first | apply Kd.S_alloc | apply Kd.S_drewN | apply Kd.S_drew)); exact (Kd.S_mono (Kd.S_far (p := ⟨gb400, 1, none⟩) (Kd.S_far (p := ⟨gb400, 0, none⟩) (Kd.S_types HO398.out BK400.out (by decide)) (fun _ hk => hk.2) (.slice Ao16 t396.length co16)) (fun _ hk => hk.2) (.bool true)) (fun _ h_ => h_.1)))); (case side2 => exact (Kd.S_reads' HO398.out).2.1); rintro e w28 ⟨rfl, hb⟩; refine ⟨_, rfl, ?_⟩; have n0_ := Aside0.mk (Kd.S_below (by (with_reducible repeat (first | apply Kd.S_alloc | apply Kd.S_drewN | apply Kd.S_drew)); exact (Kd.S_mono (Kd.S_far (p := ⟨gb400, 1, none⟩) (Kd.S_far (p := ⟨gb400, 0, none⟩) (Kd.S_types HO398.out BK400.out (by decide)) (fun _ hk => hk.2) (.slice Ao16 t396.length co16)) (fun _ hk => hk.2) (.bool true)) (fun _ h_ => h_.1))) hb); have n1_ := Aside0.mk (blk_below (g := gb393) (o := .cells #[.slice A0_0 l0_0.length c0_0, .bool a0_1] 24 (0, 0)) (by (with_reducible repeat (first | refine blk_drewN ?_ _ | refine blk_drew ?_ | refine blk_alloc ?_ _)); refine blk_far ?_ NB393_400.out _; (with_reducible repeat (first | refine blk_drewN ?_ _ | refine blk_drew ?_ | refine blk_alloc ?_ _)); refine blk_far ?_ NB393_400.out _; (with_reducible repeat (first | refine blk_drewN ?_ _ | refine blk_drew ?_ | refine blk_alloc ?_ _)); exact BK393.out) hb); have n2_ := Aside0.mk (blk_below (g := gb394) (o := .cells #[.int .i64 a2_0, .int .i64 a2_1, .int .i64 a2_2, .int .i64 a2_3, .int .i64 a2_4, .int .i64 a2_5] 26 (0, 0)) (by (with_reducible repeat (first | refine blk_drewN ?_ _ | refine blk_drew ?_ | refine blk_alloc ?_ _)); refine blk_far ?_ NB394_400.out _; (with_reducible repeat (first | refine blk_drewN ?_ _ | refine blk_drew ?_ | refine blk_alloc ?_ _)); refine blk_far ?_ NB394_400.out _; (with_reducible repeat (first | refine blk_drewN ?_ _ | refine blk_drew ?_ | refine blk_alloc ?_ _)); exact BK394.out) hb); have n3_ := Aside0.mk (blk_below (g := gb400) (o := .cells #[.slice Ao16 t396.length co16, .bool true] 30 (0, 0)) (by (with_reducible repeat (first | refine blk_drewN ?_ _ | refine blk_drew ?_ | refine blk_alloc ?_ _)); refine blk_put (cs := #[.slice Ao16 t396.length co16, .bool false]) ?_ 1 _ rfl; (with_reducible repeat (first | refine blk_drewN ?_ _ | refine blk_drew ?_ | refine blk_alloc ?_ _)); refine blk_put (cs := #[.slice none 0 0, .bool false]) ?_ 0 _ rfl; (with_reducible repeat (first | refine blk_drewN ?_ _ | refine blk_drew ?_ | refine blk_alloc ?_ _)); exact BK400.out) hb); have n4_ := Aside0.mk (below_step (by repeat (first | (with_reducible first | exact HB.out | apply below_alloc | apply pw_below_drewN | apply below_drew1 | refine below_set ?_ GE393.out | refine below_set ?_ GE394.out | refine below_set ?_ GE400.out) | exact HB.out)) hb); clear HO398; clear BK393; clear BK394; clear BK400; clear HB; have HO398 := n0_; have BK393 := n1_; have BK394 := n2_; have BK400 := n3_; have HB := n4_; clear n0_ n1_ n2_ n3_ n4_; (try clear hb); (try clear hb2); (try clear hk); (try clear hi); have hcz29_0 : w28.cell? ⟨gb400, 0, none⟩ = some (.slice Ao16 t396.length co16) := (blk_cell BK400.out 0).trans rfl; have hcz29_1 : w28.cell? ⟨gb400, 1, none⟩ = some (.bool true) := (blk_cell BK400.out 1).trans rfl; have hfz29_0 := blk_frozen BK400.out 0; have hfz29_1 := blk_frozen BK400.out 1))
     go_meet
     case rel => exact ⟨_, (true), (by first | rfl | (simp; done) | (simp [*]; done)), H', ⟨by first | omega | exact Nat.le_refl _⟩, ⟨by (with_reducible repeat (first | apply Kd.S_alloc | apply Kd.S_drewN | apply Kd.S_drew)); exact HO398.out⟩, ⟨by (with_reducible repeat (first | refine blk_drewN ?_ _ | refine blk_drew ?_ | refine blk_alloc ?_ _)); exact BK393.out⟩, ⟨by (with_reducible repeat (first | refine blk_drewN ?_ _ | refine blk_drew ?_ | refine blk_alloc ?_ _)); exact BK394.out⟩, ⟨by (with_reducible repeat (first | refine blk_drewN ?_ _ | refine blk_drew ?_ | refine blk_alloc ?_ _)); exact BK400.out⟩, ⟨by repeat (first | (with_reducible first | exact HB.out | apply below_alloc | apply pw_below_drewN | apply below_drew1 | refine below_set ?_ GE393.out | refine below_set ?_ GE394.out | refine below_set ?_ GE400.out) | exact HB.out)⟩⟩
    ·replace c22 := Bool.eq_false_iff.mpr c22
     subst c22
     have H1 : (if a1 < 1990 then (laws_FnYear.j0 k a1 true a2_0 a2_1 a2_2 a2_3 a2_4 a2_5 t396 false) else (laws_FnYear.j0 k a1 (decide (a1 > 2090)) a2_0 a2_1 a2_2 a2_3 a2_4 a2_5 t396 false)) = some r := by rw [if_neg (show ¬ (false = true) by decide)] at H; exact H
     clear H
     have H := H1
     clear H1
     by_cases c30 : a1 < 1990
     ·rw [if_pos c30] at H
      have c30b0 : decide (a1 < 1990) = true := decide_eq_true c30
      clear c30
      (first | rw [c30b0] | (simp only [i64_w, i32_w]; rw [c30b0]) | skip)
      have H' := Aside0.mk H
      clear H
      have hnb31 := NB400_393.out
      have hnc31 := NB393_400.out
      have hnb32 := NB400_394.out
      have hnc32 := NB394_400.out
      have hcz33_0 : w15.cell? ⟨gb400, 0, none⟩ = some (.slice none 0 0) := (blk_cell BK400.out 0).trans rfl
      have hcz33_1 : w15.cell? ⟨gb400, 1, none⟩ = some (.bool false) := (blk_cell BK400.out 1).trans rfl
      have hfz33_0 := blk_frozen BK400.out 0
      have hfz33_1 := blk_frozen BK400.out 1
      have hnb34 := NB394_393.out
      have hnc34 := NB393_394.out
      have hcz35_0 : w15.cell? ⟨gb394, 0, none⟩ = some (.int .i64 a2_0) := (blk_cell BK394.out 0).trans rfl
      have hcz35_1 : w15.cell? ⟨gb394, 1, none⟩ = some (.int .i64 a2_1) := (blk_cell BK394.out 1).trans rfl
      have hcz35_2 : w15.cell? ⟨gb394, 2, none⟩ = some (.int .i64 a2_2) := (blk_cell BK394.out 2).trans rfl
      have hcz35_3 : w15.cell? ⟨gb394, 3, none⟩ = some (.int .i64 a2_3) := (blk_cell BK394.out 3).trans rfl
      have hcz35_4 : w15.cell? ⟨gb394, 4, none⟩ = some (.int .i64 a2_4) := (blk_cell BK394.out 4).trans rfl
      have hcz35_5 : w15.cell? ⟨gb394, 5, none⟩ = some (.int .i64 a2_5) := (blk_cell BK394.out 5).trans rfl
      have hfz35_0 := blk_frozen BK394.out 0
      have hfz35_1 := blk_frozen BK394.out 1
      have hfz35_2 := blk_frozen BK394.out 2
      have hfz35_3 := blk_frozen BK394.out 3
      have hfz35_4 := blk_frozen BK394.out 4
      have hfz35_5 := blk_frozen BK394.out 5
      go_wp2_with (first | ((with_reducible refine gate_callee (f := 13) rfl ?_); refine goesL_ (some 19) rfl rfl Tryz.func13 (by kernel_rfl) rfl #[.agg #[.slice Ao16 t396.length co16, .bool false], .agg #[.int .i64 a2_0, .int .i64 a2_1, .int .i64 a2_2, .int .i64 a2_3, .int .i64 a2_4, .int .i64 a2_5]] rfl (by (try simp only [List.map_toArray, List.map_cons, List.map_nil]); first | done | rfl | (simp only [List.length_drop, List.length_take]; rfl)) ?_; (with_reducible refine (laws_asked.calls k _ _ t396 false a2_0 a2_1 a2_2 a2_3 a2_4 a2_5 true _ ?side1 ?side2 A20.out).mono ?_); (case side1 => refine (Kd.S_reads' (e := 36) (base := w.heap.size) (ok := fun k_ => True) (n := t396.length) (c := co16) ?_).2.2; exact (by (with_reducible repeat (first | apply Kd.S_alloc | apply Kd.S_drewN | apply Kd.S_drew)); exact (Kd.S_mono (Kd.S_far (p := ⟨gb400, 1, none⟩) (Kd.S_far (p := ⟨gb400, 0, none⟩) (Kd.S_types HO398.out BK400.out (by decide)) (fun _ hk => hk.2) (.slice Ao16 t396.length co16)) (fun _ hk => hk.2) (.bool false)) (fun _ h_ => h_.1)))); (case side2 => exact (Kd.S_reads' HO398.out).2.1); rintro e w36 ⟨rfl, hb⟩; refine ⟨_, rfl, ?_⟩; have n0_ := Aside0.mk (Kd.S_below (by (with_reducible repeat (first | apply Kd.S_alloc | apply Kd.S_drewN | apply Kd.S_drew)); exact (Kd.S_mono (Kd.S_far (p := ⟨gb400, 1, none⟩) (Kd.S_far (p := ⟨gb400, 0, none⟩) (Kd.S_types HO398.out BK400.out (by decide)) (fun _ hk => hk.2) (.slice Ao16 t396.length co16)) (fun _ hk => hk.2) (.bool false)) (fun _ h_ => h_.1))) hb); have n1_ := Aside0.mk (blk_below (g := gb393) (o := .cells #[.slice A0_0 l0_0.length c0_0, .bool a0_1] 24 (0, 0)) (by (with_reducible repeat (first | refine blk_drewN ?_ _ | refine blk_drew ?_ | refine blk_alloc ?_ _)); refine blk_far ?_ NB393_400.out _; (with_reducible repeat (first | refine blk_drewN ?_ _ | refine blk_drew ?_ | refine blk_alloc ?_ _)); refine blk_far ?_ NB393_400.out _; (with_reducible repeat (first | refine blk_drewN ?_ _ | refine blk_drew ?_ | refine blk_alloc ?_ _)); exact BK393.out) hb); have n2_ := Aside0.mk (blk_below (g := gb394) (o := .cells #[.int .i64 a2_0, .int .i64 a2_1, .int .i64 a2_2, .int .i64 a2_3, .int .i64 a2_4, .int .i64 a2_5] 26 (0, 0)) (by (with_reducible repeat (first | refine blk_drewN ?_ _ | refine blk_drew ?_ | refine blk_alloc ?_ _)); refine blk_far ?_ NB394_400.out _; (with_reducible repeat (first | refine blk_drewN ?_ _ | refine blk_drew ?_ | refine blk_alloc ?_ _)); refine blk_far ?_ NB394_400.out _; (with_reducible repeat (first | refine blk_drewN ?_ _ | refine blk_drew ?_ | refine blk_alloc ?_ _)); exact BK394.out) hb); have n3_ := Aside0.mk (blk_below (g := gb400) (o := .cells #[.slice Ao16 t396.length co16, .bool false] 30 (0, 0)) (by (with_reducible repeat (first | refine blk_drewN ?_ _ | refine blk_drew ?_ | refine blk_alloc ?_ _)); refine blk_put (cs := #[.slice Ao16 t396.length co16, .bool false]) ?_ 1 _ rfl; (with_reducible repeat (first | refine blk_drewN ?_ _ | refine blk_drew ?_ | refine blk_alloc ?_ _)); refine blk_put (cs := #[.slice none 0 0, .bool false]) ?_ 0 _ rfl; (with_reducible repeat (first | refine blk_drewN ?_ _ | refine blk_drew ?_ | refine blk_alloc ?_ _)); exact BK400.out) hb); have n4_ := Aside0.mk (below_step (by repeat (first | (with_reducible first | exact HB.out | apply below_alloc | apply pw_below_drewN | apply below_drew1 | refine below_set ?_ GE393.out | refine below_set ?_ GE394.out | refine below_set ?_ GE400.out) | exact HB.out)) hb); clear HO398; clear BK393; clear BK394; clear BK400; clear HB; have HO398 := n0_; have BK393 := n1_; have BK394 := n2_; have BK400 := n3_; have HB := n4_; clear n0_ n1_ n2_ n3_ n4_; (try clear hb); (try clear hb2); (try clear hk); (try clear hi); have hcz37_0 : w36.cell? ⟨gb400, 0, none⟩ = some (.slice Ao16 t396.length co16) := (blk_cell BK400.out 0).trans rfl; have hcz37_1 : w36.cell? ⟨gb400, 1, none⟩ = some (.bool false) := (blk_cell BK400.out 1).trans rfl; have hfz37_0 := blk_frozen BK400.out 0; have hfz37_1 := blk_frozen BK400.out 1))
      go_meet
      case rel => exact ⟨_, (true), (by first | rfl | (simp; done) | (simp [*]; done)), H', ⟨by first | omega | exact Nat.le_refl _⟩, ⟨by (with_reducible repeat (first | apply Kd.S_alloc | apply Kd.S_drewN | apply Kd.S_drew)); exact HO398.out⟩, ⟨by (with_reducible repeat (first | refine blk_drewN ?_ _ | refine blk_drew ?_ | refine blk_alloc ?_ _)); exact BK393.out⟩, ⟨by (with_reducible repeat (first | refine blk_drewN ?_ _ | refine blk_drew ?_ | refine blk_alloc ?_ _)); exact BK394.out⟩, ⟨by (with_reducible repeat (first | refine blk_drewN ?_ _ | refine blk_drew ?_ | refine blk_alloc ?_ _)); exact BK400.out⟩, ⟨by repeat (first | (with_reducible first | exact HB.out | apply below_alloc | apply pw_below_drewN | apply below_drew1 | refine below_set ?_ GE393.out | refine below_set ?_ GE394.out | refine below_set ?_ GE400.out) | exact HB.out)⟩⟩
     ·rw [if_neg c30] at H
      have c30b0 : decide (a1 < 1990) = false := decide_eq_false c30
      clear c30
      (first | rw [c30b0] | (simp only [i64_w, i32_w]; rw [c30b0]) | skip)
      have H' := Aside0.mk H
      clear H
      have hnb38 := NB400_393.out
      have hnc38 := NB393_400.out
      have hnb39 := NB400_394.out
      have hnc39 := NB394_400.out
      have hcz40_0 : w15.cell? ⟨gb400, 0, none⟩ = some (.slice none 0 0) := (blk_cell BK400.out 0).trans rfl
      have hcz40_1 : w15.cell? ⟨gb400, 1, none⟩ = some (.bool false) := (blk_cell BK400.out 1).trans rfl
      have hfz40_0 := blk_frozen BK400.out 0
      have hfz40_1 := blk_frozen BK400.out 1
      have hnb41 := NB394_393.out
      have hnc41 := NB393_394.out
      have hcz42_0 : w15.cell? ⟨gb394, 0, none⟩ = some (.int .i64 a2_0) := (blk_cell BK394.out 0).trans rfl
      have hcz42_1 : w15.cell? ⟨gb394, 1, none⟩ = some (.int .i64 a2_1) := (blk_cell BK394.out 1).trans rfl
      have hcz42_2 : w15.cell? ⟨gb394, 2, none⟩ = some (.int .i64 a2_2) := (blk_cell BK394.out 2).trans rfl
      have hcz42_3 : w15.cell? ⟨gb394, 3, none⟩ = some (.int .i64 a2_3) := (blk_cell BK394.out 3).trans rfl
      have hcz42_4 : w15.cell? ⟨gb394, 4, none⟩ = some (.int .i64 a2_4) := (blk_cell BK394.out 4).trans rfl
      have hcz42_5 : w15.cell? ⟨gb394, 5, none⟩ = some (.int .i64 a2_5) := (blk_cell BK394.out 5).trans rfl
      have hfz42_0 := blk_frozen BK394.out 0
      have hfz42_1 := blk_frozen BK394.out 1
      have hfz42_2 := blk_frozen BK394.out 2
      have hfz42_3 := blk_frozen BK394.out 3
      have hfz42_4 := blk_frozen BK394.out 4
      have hfz42_5 := blk_frozen BK394.out 5
      go_wp2_with (first | ((with_reducible refine gate_callee (f := 13) rfl ?_); refine goesL_ (some 19) rfl rfl Tryz.func13 (by kernel_rfl) rfl #[.agg #[.slice Ao16 t396.length co16, .bool false], .agg #[.int .i64 a2_0, .int .i64 a2_1, .int .i64 a2_2, .int .i64 a2_3, .int .i64 a2_4, .int .i64 a2_5]] rfl (by (try simp only [List.map_toArray, List.map_cons, List.map_nil]); first | done | rfl | (simp only [List.length_drop, List.length_take]; rfl)) ?_; (with_reducible refine (laws_asked.calls k _ _ t396 false a2_0 a2_1 a2_2 a2_3 a2_4 a2_5 true _ ?side1 ?side2 A20.out).mono ?_); (case side1 => refine (Kd.S_reads' (e := 36) (base := w.heap.size) (ok := fun k_ => True) (n := t396.length) (c := co16) ?_).2.2; exact (by (with_reducible repeat (first | apply Kd.S_alloc | apply Kd.S_drewN | apply Kd.S_drew)); exact (Kd.S_mono (Kd.S_far (p := ⟨gb400, 1, none⟩) (Kd.S_far (p := ⟨gb400, 0, none⟩) (Kd.S_types HO398.out BK400.out (by decide)) (fun _ hk => hk.2) (.slice Ao16 t396.length co16)) (fun _ hk => hk.2) (.bool false)) (fun _ h_ => h_.1)))); (case side2 => exact (Kd.S_reads' HO398.out).2.1); rintro e w43 ⟨rfl, hb⟩; refine ⟨_, rfl, ?_⟩; have n0_ := Aside0.mk (Kd.S_below (by (with_reducible repeat (first | apply Kd.S_alloc | apply Kd.S_drewN | apply Kd.S_drew)); exact (Kd.S_mono (Kd.S_far (p := ⟨gb400, 1, none⟩) (Kd.S_far (p := ⟨gb400, 0, none⟩) (Kd.S_types HO398.out BK400.out (by decide)) (fun _ hk => hk.2) (.slice Ao16 t396.length co16)) (fun _ hk => hk.2) (.bool false)) (fun _ h_ => h_.1))) hb); have n1_ := Aside0.mk (blk_below (g := gb393) (o := .cells #[.slice A0_0 l0_0.length c0_0, .bool a0_1] 24 (0, 0)) (by (with_reducible repeat (first | refine blk_drewN ?_ _ | refine blk_drew ?_ | refine blk_alloc ?_ _)); refine blk_far ?_ NB393_400.out _; (with_reducible repeat (first | refine blk_drewN ?_ _ | refine blk_drew ?_ | refine blk_alloc ?_ _)); refine blk_far ?_ NB393_400.out _; (with_reducible repeat (first | refine blk_drewN ?_ _ | refine blk_drew ?_ | refine blk_alloc ?_ _)); exact BK393.out) hb); have n2_ := Aside0.mk (blk_below (g := gb394) (o := .cells #[.int .i64 a2_0, .int .i64 a2_1, .int .i64 a2_2, .int .i64 a2_3, .int .i64 a2_4, .int .i64 a2_5] 26 (0, 0)) (by (with_reducible repeat (first | refine blk_drewN ?_ _ | refine blk_drew ?_ | refine blk_alloc ?_ _)); refine blk_far ?_ NB394_400.out _; (with_reducible repeat (first | refine blk_drewN ?_ _ | refine blk_drew ?_ | refine blk_alloc ?_ _)); refine blk_far ?_ NB394_400.out _; (with_reducible repeat (first | refine blk_drewN ?_ _ | refine blk_drew ?_ | refine blk_alloc ?_ _)); exact BK394.out) hb); have n3_ := Aside0.mk (blk_below (g := gb400) (o := .cells #[.slice Ao16 t396.length co16, .bool false] 30 (0, 0)) (by (with_reducible repeat (first | refine blk_drewN ?_ _ | refine blk_drew ?_ | refine blk_alloc ?_ _)); refine blk_put (cs := #[.slice Ao16 t396.length co16, .bool false]) ?_ 1 _ rfl; (with_reducible repeat (first | refine blk_drewN ?_ _ | refine blk_drew ?_ | refine blk_alloc ?_ _)); refine blk_put (cs := #[.slice none 0 0, .bool false]) ?_ 0 _ rfl; (with_reducible repeat (first | refine blk_drewN ?_ _ | refine blk_drew ?_ | refine blk_alloc ?_ _)); exact BK400.out) hb); have n4_ := Aside0.mk (below_step (by repeat (first | (with_reducible first | exact HB.out | apply below_alloc | apply pw_below_drewN | apply below_drew1 | refine below_set ?_ GE393.out | refine below_set ?_ GE394.out | refine below_set ?_ GE400.out) | exact HB.out)) hb); clear HO398; clear BK393; clear BK394; clear BK400; clear HB; have HO398 := n0_; have BK393 := n1_; have BK394 := n2_; have BK400 := n3_; have HB := n4_; clear n0_ n1_ n2_ n3_ n4_; (try clear hb); (try clear hb2); (try clear hk); (try clear hi); have hcz44_0 : w43.cell? ⟨gb400, 0, none⟩ = some (.slice Ao16 t396.length co16) := (blk_cell BK400.out 0).trans rfl; have hcz44_1 : w43.cell? ⟨gb400, 1, none⟩ = some (.bool false) := (blk_cell BK400.out 1).trans rfl; have hfz44_0 := blk_frozen BK400.out 0; have hfz44_1 := blk_frozen BK400.out 1))
      go_meet
      case rel => exact ⟨_, (decide (a1 > 2090)), (by first | rfl | (simp; done) | (simp [*]; done)), H', ⟨by first | omega | exact Nat.le_refl _⟩, ⟨by (with_reducible repeat (first | apply Kd.S_alloc | apply Kd.S_drewN | apply Kd.S_drew)); exact HO398.out⟩, ⟨by (with_reducible repeat (first | refine blk_drewN ?_ _ | refine blk_drew ?_ | refine blk_alloc ?_ _)); exact BK393.out⟩, ⟨by (with_reducible repeat (first | refine blk_drewN ?_ _ | refine blk_drew ?_ | refine blk_alloc ?_ _)); exact BK394.out⟩, ⟨by (with_reducible repeat (first | refine blk_drewN ?_ _ | refine blk_drew ?_ | refine blk_alloc ?_ _)); exact BK400.out⟩, ⟨by repeat (first | (with_reducible first | exact HB.out | apply below_alloc | apply pw_below_drewN | apply below_drew1 | refine below_set ?_ GE393.out | refine below_set ?_ GE394.out | refine below_set ?_ GE400.out) | exact HB.out)⟩⟩
   ·replace c21 := Bool.eq_false_iff.mpr c21
    subst c21
    have H1 : (laws_FnYear.j0 k a1 true a2_0 a2_1 a2_2 a2_3 a2_4 a2_5 t396 t399) = some r := by rw [if_neg (show ¬ (false = true) by decide)] at H; exact H
    clear H
    have H := H1
    clear H1
    have H' := Aside0.mk H
    clear H
    have hnb45 := NB400_393.out
    have hnc45 := NB393_400.out
    have hnb46 := NB400_394.out
    have hnc46 := NB394_400.out
    have hcz47_0 : w15.cell? ⟨gb400, 0, none⟩ = some (.slice none 0 0) := (blk_cell BK400.out 0).trans rfl
    have hcz47_1 : w15.cell? ⟨gb400, 1, none⟩ = some (.bool false) := (blk_cell BK400.out 1).trans rfl
    have hfz47_0 := blk_frozen BK400.out 0
    have hfz47_1 := blk_frozen BK400.out 1
    have hnb48 := NB394_393.out
    have hnc48 := NB393_394.out
    have hcz49_0 : w15.cell? ⟨gb394, 0, none⟩ = some (.int .i64 a2_0) := (blk_cell BK394.out 0).trans rfl
    have hcz49_1 : w15.cell? ⟨gb394, 1, none⟩ = some (.int .i64 a2_1) := (blk_cell BK394.out 1).trans rfl
    have hcz49_2 : w15.cell? ⟨gb394, 2, none⟩ = some (.int .i64 a2_2) := (blk_cell BK394.out 2).trans rfl
    have hcz49_3 : w15.cell? ⟨gb394, 3, none⟩ = some (.int .i64 a2_3) := (blk_cell BK394.out 3).trans rfl
    have hcz49_4 : w15.cell? ⟨gb394, 4, none⟩ = some (.int .i64 a2_4) := (blk_cell BK394.out 4).trans rfl
    have hcz49_5 : w15.cell? ⟨gb394, 5, none⟩ = some (.int .i64 a2_5) := (blk_cell BK394.out 5).trans rfl
    have hfz49_0 := blk_frozen BK394.out 0
    have hfz49_1 := blk_frozen BK394.out 1
    have hfz49_2 := blk_frozen BK394.out 2
    have hfz49_3 := blk_frozen BK394.out 3
    have hfz49_4 := blk_frozen BK394.out 4
    have hfz49_5 := blk_frozen BK394.out 5
    go_wp2_with (first | ((with_reducible refine gate_callee (f := 13) rfl ?_); refine goesL_ (some 19) rfl rfl Tryz.func13 (by kernel_rfl) rfl #[.agg #[.slice Ao16 t396.length co16, .bool t399], .agg #[.int .i64 a2_0, .int .i64 a2_1, .int .i64 a2_2, .int .i64 a2_3, .int .i64 a2_4, .int .i64 a2_5]] rfl (by (try simp only [List.map_toArray, List.map_cons, List.map_nil]); first | done | rfl | (simp only [List.length_drop, List.length_take]; rfl)) ?_; (with_reducible refine (laws_asked.calls k _ _ t396 t399 a2_0 a2_1 a2_2 a2_3 a2_4 a2_5 false _ ?side1 ?side2 A20.out).mono ?_); (case side1 => refine (Kd.S_reads' (e := 36) (base := w.heap.size) (ok := fun k_ => True) (n := t396.length) (c := co16) ?_).2.2; exact (by (with_reducible repeat (first | apply Kd.S_alloc | apply Kd.S_drewN | apply Kd.S_drew)); exact (Kd.S_mono (Kd.S_far (p := ⟨gb400, 1, none⟩) (Kd.S_far (p := ⟨gb400, 0, none⟩) (Kd.S_types HO398.out BK400.out (by decide)) (fun _ hk => hk.2) (.slice Ao16 t396.length co16)) (fun _ hk => hk.2) (.bool t399)) (fun _ h_ => h_.1)))); (case side2 => exact (Kd.S_reads' HO398.out).2.1); rintro e w50 ⟨rfl, hb⟩; refine ⟨_, rfl, ?_⟩; have n0_ := Aside0.mk (Kd.S_below (by (with_reducible repeat (first | apply Kd.S_alloc | apply Kd.S_drewN | apply Kd.S_drew)); exact (Kd.S_mono (Kd.S_far (p := ⟨gb400, 1, none⟩) (Kd.S_far (p := ⟨gb400, 0, none⟩) (Kd.S_types HO398.out BK400.out (by decide)) (fun _ hk => hk.2) (.slice Ao16 t396.length co16)) (fun _ hk => hk.2) (.bool t399)) (fun _ h_ => h_.1))) hb); have n1_ := Aside0.mk (blk_below (g := gb393) (o := .cells #[.slice A0_0 l0_0.length c0_0, .bool a0_1] 24 (0, 0)) (by (with_reducible repeat (first | refine blk_drewN ?_ _ | refine blk_drew ?_ | refine blk_alloc ?_ _)); refine blk_far ?_ NB393_400.out _; (with_reducible repeat (first | refine blk_drewN ?_ _ | refine blk_drew ?_ | refine blk_alloc ?_ _)); refine blk_far ?_ NB393_400.out _; (with_reducible repeat (first | refine blk_drewN ?_ _ | refine blk_drew ?_ | refine blk_alloc ?_ _)); exact BK393.out) hb); have n2_ := Aside0.mk (blk_below (g := gb394) (o := .cells #[.int .i64 a2_0, .int .i64 a2_1, .int .i64 a2_2, .int .i64 a2_3, .int .i64 a2_4, .int .i64 a2_5] 26 (0, 0)) (by (with_reducible repeat (first | refine blk_drewN ?_ _ | refine blk_drew ?_ | refine blk_alloc ?_ _)); refine blk_far ?_ NB394_400.out _; (with_reducible repeat (first | refine blk_drewN ?_ _ | refine blk_drew ?_ | refine blk_alloc ?_ _)); refine blk_far ?_ NB394_400.out _; (with_reducible repeat (first | refine blk_drewN ?_ _ | refine blk_drew ?_ | refine blk_alloc ?_ _)); exact BK394.out) hb); have n3_ := Aside0.mk (blk_below (g := gb400) (o := .cells #[.slice Ao16 t396.length co16, .bool t399] 30 (0, 0)) (by (with_reducible repeat (first | refine blk_drewN ?_ _ | refine blk_drew ?_ | refine blk_alloc ?_ _)); refine blk_put (cs := #[.slice Ao16 t396.length co16, .bool false]) ?_ 1 _ rfl; (with_reducible repeat (first | refine blk_drewN ?_ _ | refine blk_drew ?_ | refine blk_alloc ?_ _)); refine blk_put (cs := #[.slice none 0 0, .bool false]) ?_ 0 _ rfl; (with_reducible repeat (first | refine blk_drewN ?_ _ | refine blk_drew ?_ | refine blk_alloc ?_ _)); exact BK400.out) hb); have n4_ := Aside0.mk (below_step (by repeat (first | (with_reducible first | exact HB.out | apply below_alloc | apply pw_below_drewN | apply below_drew1 | refine below_set ?_ GE393.out | refine below_set ?_ GE394.out | refine below_set ?_ GE400.out) | exact HB.out)) hb); clear HO398; clear BK393; clear BK394; clear BK400; clear HB; have HO398 := n0_; have BK393 := n1_; have BK394 := n2_; have BK400 := n3_; have HB := n4_; clear n0_ n1_ n2_ n3_ n4_; (try clear hb); (try clear hb2); (try clear hk); (try clear hi)))
    go_meet
    case rel => exact ⟨_, (true), (by first | rfl | (simp; done) | (simp [*]; done)), H', ⟨by first | omega | exact Nat.le_refl _⟩, ⟨by (with_reducible repeat (first | apply Kd.S_alloc | apply Kd.S_drewN | apply Kd.S_drew)); exact HO398.out⟩, ⟨by (with_reducible repeat (first | refine blk_drewN ?_ _ | refine blk_drew ?_ | refine blk_alloc ?_ _)); exact BK393.out⟩, ⟨by (with_reducible repeat (first | refine blk_drewN ?_ _ | refine blk_drew ?_ | refine blk_alloc ?_ _)); exact BK394.out⟩, ⟨by (with_reducible repeat (first | refine blk_drewN ?_ _ | refine blk_drew ?_ | refine blk_alloc ?_ _)); exact BK400.out⟩, ⟨by repeat (first | (with_reducible first | exact HB.out | apply below_alloc | apply pw_below_drewN | apply below_drew1 | refine below_set ?_ GE393.out | refine below_set ?_ GE394.out | refine below_set ?_ GE400.out) | exact HB.out)⟩⟩
  case rest =>
   clear HC7
   obtain ⟨kq, x32_6, rfl, HA, HJ6, HO_401000, BK393, BK394, BK400, HB⟩ := hcut
   cases kq with
   | zero => exact absurd HA.out (by simp [laws_FnYear.j0])
   | succ kj6 =>
    have H := HA.out
    clear HA
    simp only [laws_FnYear.j0] at H
    by_cases c51 : x32_6 = true
    ·subst c51
     have H1 : (some true) = some r := by rw [if_pos rfl] at H; exact H
     clear H
     have H := H1
     clear H1
     obtain rfl := Option.some.inj H
     go_wp2
     go_ret
     exact ⟨by first | rfl | (simp [errW_none, errW_some] <;> rfl) | (simp [*, errW_none, errW_some] <;> rfl), by repeat (first | (with_reducible first | exact HB.out | apply below_alloc | apply pw_below_drewN | apply below_drew1 | refine below_set ?_ GE393.out | refine below_set ?_ GE394.out | refine below_set ?_ GE400.out) | exact HB.out)⟩
    ·replace c51 := Bool.eq_false_iff.mpr c51
     subst c51
     have H1 : ((spec_Text.f kj6 t396 t399).bind fun t402 => (if t402.size + 1 ≤ 9223372036854775807 then ((spec_Decimal.f kj6 a1).bind fun t403 => (if (t402 ++ (⟨#[32]⟩ : ByteArray)).size + t403.size ≤ 9223372036854775807 then ((impl_Due.f ((t402 ++ (⟨#[32]⟩ : ByteArray)) ++ t403) a2_0 a2_1 a2_2 a2_3 a2_4 a2_5).bind fun bt404 => ((spec_Text.f kj6 t396 t399).bind fun t406 => (if t406.size + 1 ≤ 9223372036854775807 then ((spec_Decimal.f kj6 a1).bind fun t407 => (if (t406 ++ (⟨#[32]⟩ : ByteArray)).size + t407.size ≤ 9223372036854775807 then ((impl_Parts.f kj6 ((t406 ++ (⟨#[32]⟩ : ByteArray)) ++ t407)).bind fun bt408 => (if bt404.2 = true then (if bt408.2 = true then (if (bt408.1.length : Int) = 7 then (if 6 < (bt408.1.length : Int) then ((spec_Decimal.f kj6 a1).bind fun t413 => (if (rdOf ByteArray.empty bt408.1 6).toList = t413.toList then (if a2_0 = a1 then ((laws_moment.f a2_0 a2_1 a2_2 a2_3 a2_4 a2_5).bind fun bt414 => ((spec_Fits.f kj6 t396 t399 bt414.1 bt414.2.1 bt414.2.2.1 bt414.2.2.2.1 bt414.2.2.2.2.1 bt414.2.2.2.2.2).bind fun t420 => (some (bt404.1 == t420)))) else (some (bt404.1 == false))) else (some false))) else (none)) else (some false)) else (some false)) else (some false))) else (none))) else (none)))) else (none))) else (none))) = some r := by rw [if_neg (show ¬ (false = true) by decide)] at H; exact H
     clear H
     have H := H1
     clear H1
     replace H := Option.bind_eq_some_iff.mp H
     obtain ⟨t402, A520, H⟩ := H
     replace H : (if t402.size + 1 ≤ 9223372036854775807 then ((spec_Decimal.f kj6 a1).bind fun t403 => (if (t402 ++ (⟨#[32]⟩ : ByteArray)).size + t403.size ≤ 9223372036854775807 then ((impl_Due.f ((t402 ++ (⟨#[32]⟩ : ByteArray)) ++ t403) a2_0 a2_1 a2_2 a2_3 a2_4 a2_5).bind fun bt404 => ((spec_Text.f kj6 t396 t399).bind fun t406 => (if t406.size + 1 ≤ 9223372036854775807 then ((spec_Decimal.f kj6 a1).bind fun t407 => (if (t406 ++ (⟨#[32]⟩ : ByteArray)).size + t407.size ≤ 9223372036854775807 then ((impl_Parts.f kj6 ((t406 ++ (⟨#[32]⟩ : ByteArray)) ++ t407)).bind fun bt408 => (if bt404.2 = true then (if bt408.2 = true then (if (bt408.1.length : Int) = 7 then (if 6 < (bt408.1.length : Int) then ((spec_Decimal.f kj6 a1).bind fun t413 => (if (rdOf ByteArray.empty bt408.1 6).toList = t413.toList then (if a2_0 = a1 then ((laws_moment.f a2_0 a2_1 a2_2 a2_3 a2_4 a2_5).bind fun bt414 => ((spec_Fits.f kj6 t396 t399 bt414.1 bt414.2.1 bt414.2.2.1 bt414.2.2.2.1 bt414.2.2.2.2.1 bt414.2.2.2.2.2).bind fun t420 => (some (bt404.1 == t420)))) else (some (bt404.1 == false))) else (some false))) else (none)) else (some false)) else (some false)) else (some false))) else (none))) else (none)))) else (none))) else (none)) = some r := H
     have A52 := Aside0.mk A520
     clear A520
     by_cases c53 : t402.size + 1 ≤ 9223372036854775807
     ·rw [if_pos c53] at H
      have c53b0 := eq_true c53
      have c53b1 : decide (t402.size + 1 ≤ 9223372036854775807) = true := decide_eq_true c53
      try have c53b2 : (9223372036854775807 < t402.size + 1) = False := eq_false (Nat.not_lt.2 c53)
      replace H := Option.bind_eq_some_iff.mp H
      obtain ⟨t403, A540, H⟩ := H
      replace H : (if (t402 ++ (⟨#[32]⟩ : ByteArray)).size + t403.size ≤ 9223372036854775807 then ((impl_Due.f ((t402 ++ (⟨#[32]⟩ : ByteArray)) ++ t403) a2_0 a2_1 a2_2 a2_3 a2_4 a2_5).bind fun bt404 => ((spec_Text.f kj6 t396 t399).bind fun t406 => (if t406.size + 1 ≤ 9223372036854775807 then ((spec_Decimal.f kj6 a1).bind fun t407 => (if (t406 ++ (⟨#[32]⟩ : ByteArray)).size + t407.size ≤ 9223372036854775807 then ((impl_Parts.f kj6 ((t406 ++ (⟨#[32]⟩ : ByteArray)) ++ t407)).bind fun bt408 => (if bt404.2 = true then (if bt408.2 = true then (if (bt408.1.length : Int) = 7 then (if 6 < (bt408.1.length : Int) then ((spec_Decimal.f kj6 a1).bind fun t413 => (if (rdOf ByteArray.empty bt408.1 6).toList = t413.toList then (if a2_0 = a1 then ((laws_moment.f a2_0 a2_1 a2_2 a2_3 a2_4 a2_5).bind fun bt414 => ((spec_Fits.f kj6 t396 t399 bt414.1 bt414.2.1 bt414.2.2.1 bt414.2.2.2.1 bt414.2.2.2.2.1 bt414.2.2.2.2.2).bind fun t420 => (some (bt404.1 == t420)))) else (some (bt404.1 == false))) else (some false))) else (none)) else (some false)) else (some false)) else (some false))) else (none))) else (none)))) else (none)) = some r := H
      have A54 := Aside0.mk A540
      clear A540
      by_cases c55 : (t402 ++ (⟨#[32]⟩ : ByteArray)).size + t403.size ≤ 9223372036854775807
      ·rw [if_pos c55] at H
       have c55b0 := eq_true c55
       have c55b1 : decide ((t402 ++ (⟨#[32]⟩ : ByteArray)).size + t403.size ≤ 9223372036854775807) = true := decide_eq_true c55
       try have c55b2 : (9223372036854775807 < (t402 ++ (⟨#[32]⟩ : ByteArray)).size + t403.size) = False := eq_false (Nat.not_lt.2 c55)
       (try have c55b3 : (9223372036854775807 < (t402.size + 1) + t403.size) = False := eq_false (Nat.not_lt.2 (by have h_ := c55; (try simp only [ByteArray.size_append] at h_); exact h_)))
       replace H := Option.bind_eq_some_iff.mp H
       obtain ⟨⟨t404, t405⟩, A560, H⟩ := H
       replace H : ((spec_Text.f kj6 t396 t399).bind fun t406 => (if t406.size + 1 ≤ 9223372036854775807 then ((spec_Decimal.f kj6 a1).bind fun t407 => (if (t406 ++ (⟨#[32]⟩ : ByteArray)).size + t407.size ≤ 9223372036854775807 then ((impl_Parts.f kj6 ((t406 ++ (⟨#[32]⟩ : ByteArray)) ++ t407)).bind fun bt408 => (if t405 = true then (if bt408.2 = true then (if (bt408.1.length : Int) = 7 then (if 6 < (bt408.1.length : Int) then ((spec_Decimal.f kj6 a1).bind fun t413 => (if (rdOf ByteArray.empty bt408.1 6).toList = t413.toList then (if a2_0 = a1 then ((laws_moment.f a2_0 a2_1 a2_2 a2_3 a2_4 a2_5).bind fun bt414 => ((spec_Fits.f kj6 t396 t399 bt414.1 bt414.2.1 bt414.2.2.1 bt414.2.2.2.1 bt414.2.2.2.2.1 bt414.2.2.2.2.2).bind fun t420 => (some (t404 == t420)))) else (some (t404 == false))) else (some false))) else (none)) else (some false)) else (some false)) else (some false))) else (none))) else (none))) = some r := H
       have A56 := Aside0.mk A560
       clear A560
       replace H := Option.bind_eq_some_iff.mp H
       obtain ⟨t406, A570, H⟩ := H
       replace H : (if t406.size + 1 ≤ 9223372036854775807 then ((spec_Decimal.f kj6 a1).bind fun t407 => (if (t406 ++ (⟨#[32]⟩ : ByteArray)).size + t407.size ≤ 9223372036854775807 then ((impl_Parts.f kj6 ((t406 ++ (⟨#[32]⟩ : ByteArray)) ++ t407)).bind fun bt408 => (if t405 = true then (if bt408.2 = true then (if (bt408.1.length : Int) = 7 then (if 6 < (bt408.1.length : Int) then ((spec_Decimal.f kj6 a1).bind fun t413 => (if (rdOf ByteArray.empty bt408.1 6).toList = t413.toList then (if a2_0 = a1 then ((laws_moment.f a2_0 a2_1 a2_2 a2_3 a2_4 a2_5).bind fun bt414 => ((spec_Fits.f kj6 t396 t399 bt414.1 bt414.2.1 bt414.2.2.1 bt414.2.2.2.1 bt414.2.2.2.2.1 bt414.2.2.2.2.2).bind fun t420 => (some (t404 == t420)))) else (some (t404 == false))) else (some false))) else (none)) else (some false)) else (some false)) else (some false))) else (none))) else (none)) = some r := H
       have A57 := Aside0.mk A570
       clear A570
       by_cases c58 : t406.size + 1 ≤ 9223372036854775807
       ·rw [if_pos c58] at H
        have c58b0 := eq_true c58
        have c58b1 : decide (t406.size + 1 ≤ 9223372036854775807) = true := decide_eq_true c58
        try have c58b2 : (9223372036854775807 < t406.size + 1) = False := eq_false (Nat.not_lt.2 c58)
        replace H := Option.bind_eq_some_iff.mp H
        obtain ⟨t407, A590, H⟩ := H
        replace H : (if (t406 ++ (⟨#[32]⟩ : ByteArray)).size + t407.size ≤ 9223372036854775807 then ((impl_Parts.f kj6 ((t406 ++ (⟨#[32]⟩ : ByteArray)) ++ t407)).bind fun bt408 => (if t405 = true then (if bt408.2 = true then (if (bt408.1.length : Int) = 7 then (if 6 < (bt408.1.length : Int) then ((spec_Decimal.f kj6 a1).bind fun t413 => (if (rdOf ByteArray.empty bt408.1 6).toList = t413.toList then (if a2_0 = a1 then ((laws_moment.f a2_0 a2_1 a2_2 a2_3 a2_4 a2_5).bind fun bt414 => ((spec_Fits.f kj6 t396 t399 bt414.1 bt414.2.1 bt414.2.2.1 bt414.2.2.2.1 bt414.2.2.2.2.1 bt414.2.2.2.2.2).bind fun t420 => (some (t404 == t420)))) else (some (t404 == false))) else (some false))) else (none)) else (some false)) else (some false)) else (some false))) else (none)) = some r := H
        have A59 := Aside0.mk A590
        clear A590
        by_cases c60 : (t406 ++ (⟨#[32]⟩ : ByteArray)).size + t407.size ≤ 9223372036854775807
        ·rw [if_pos c60] at H
         have c60b0 := eq_true c60
         have c60b1 : decide ((t406 ++ (⟨#[32]⟩ : ByteArray)).size + t407.size ≤ 9223372036854775807) = true := decide_eq_true c60
         try have c60b2 : (9223372036854775807 < (t406 ++ (⟨#[32]⟩ : ByteArray)).size + t407.size) = False := eq_false (Nat.not_lt.2 c60)
         (try have c60b3 : (9223372036854775807 < (t406.size + 1) + t407.size) = False := eq_false (Nat.not_lt.2 (by have h_ := c60; (try simp only [ByteArray.size_append] at h_); exact h_)))
         replace H := Option.bind_eq_some_iff.mp H
         obtain ⟨⟨t408, t409⟩, A610, H⟩ := H
         replace H : (if t405 = true then (if t409 = true then (if (t408.length : Int) = 7 then (if 6 < (t408.length : Int) then ((spec_Decimal.f kj6 a1).bind fun t413 => (if (rdOf ByteArray.empty t408 6).toList = t413.toList then (if a2_0 = a1 then ((laws_moment.f a2_0 a2_1 a2_2 a2_3 a2_4 a2_5).bind fun bt414 => ((spec_Fits.f kj6 t396 t399 bt414.1 bt414.2.1 bt414.2.2.1 bt414.2.2.2.1 bt414.2.2.2.2.1 bt414.2.2.2.2.2).bind fun t420 => (some (t404 == t420)))) else (some (t404 == false))) else (some false))) else (none)) else (some false)) else (some false)) else (some false)) = some r := H
         have A61 := Aside0.mk A610
         clear A610
         by_cases c62 : t405 = true
         ·subst c62
          have H1 : (if t409 = true then (if (t408.length : Int) = 7 then (if 6 < (t408.length : Int) then ((spec_Decimal.f kj6 a1).bind fun t413 => (if (rdOf ByteArray.empty t408 6).toList = t413.toList then (if a2_0 = a1 then ((laws_moment.f a2_0 a2_1 a2_2 a2_3 a2_4 a2_5).bind fun bt414 => ((spec_Fits.f kj6 t396 t399 bt414.1 bt414.2.1 bt414.2.2.1 bt414.2.2.2.1 bt414.2.2.2.2.1 bt414.2.2.2.2.2).bind fun t420 => (some (t404 == t420)))) else (some (t404 == false))) else (some false))) else (none)) else (some false)) else (some false)) = some r := by rw [if_pos rfl] at H; exact H
          clear H
          have H := H1
          clear H1
          by_cases c63 : t409 = true
          ·subst c63
           have H1 : (if (t408.length : Int) = 7 then (if 6 < (t408.length : Int) then ((spec_Decimal.f kj6 a1).bind fun t413 => (if (rdOf ByteArray.empty t408 6).toList = t413.toList then (if a2_0 = a1 then ((laws_moment.f a2_0 a2_1 a2_2 a2_3 a2_4 a2_5).bind fun bt414 => ((spec_Fits.f kj6 t396 t399 bt414.1 bt414.2.1 bt414.2.2.1 bt414.2.2.2.1 bt414.2.2.2.2.1 bt414.2.2.2.2.2).bind fun t420 => (some (t404 == t420)))) else (some (t404 == false))) else (some false))) else (none)) else (some false)) = some r := by rw [if_pos rfl] at H; exact H
           clear H
           have H := H1
           clear H1
           by_cases c64 : (t408.length : Int) = 7
           ·rw [if_pos c64] at H
            have c64b0 : ((t408.length : Int) == 7) = true := beq_iff_eq.mpr c64
            have c64b1 : ((t408.length : Int) != 7) = false := bne_eq_false_iff_eq.mpr c64
            clear c64
            by_cases c65 : 6 < (t408.length : Int)
            ·rw [if_pos c65] at H
             have c65b0 : decide (6 < (t408.length : Int)) = true := decide_eq_true c65
             have c65b1 : decide (6 < t408.length) = true := decide_eq_true (by omega)
             clear c65
             replace H := Option.bind_eq_some_iff.mp H
             obtain ⟨t413, A660, H⟩ := H
             replace H : (if (rdOf ByteArray.empty t408 6).toList = t413.toList then (if a2_0 = a1 then ((laws_moment.f a2_0 a2_1 a2_2 a2_3 a2_4 a2_5).bind fun bt414 => ((spec_Fits.f kj6 t396 t399 bt414.1 bt414.2.1 bt414.2.2.1 bt414.2.2.2.1 bt414.2.2.2.2.1 bt414.2.2.2.2.2).bind fun t420 => (some (t404 == t420)))) else (some (t404 == false))) else (some false)) = some r := H
             have A66 := Aside0.mk A660
             clear A660
             by_cases c67 : (rdOf ByteArray.empty t408 6).toList = t413.toList
             ·rw [if_pos c67] at H
              have c67b0 : ((rdOf ByteArray.empty t408 6).toList == t413.toList) = true := beq_iff_eq.mpr c67
              have c67b1 : ((rdOf ByteArray.empty t408 6).toList != t413.toList) = false := bne_eq_false_iff_eq.mpr c67
              clear c67
              by_cases c68 : a2_0 = a1
              ·rw [if_pos c68] at H
               have c68b0 : (a2_0 == a1) = true := beq_iff_eq.mpr c68
               have c68b1 : (a2_0 != a1) = false := bne_eq_false_iff_eq.mpr c68
               clear c68
               replace H := Option.bind_eq_some_iff.mp H
               obtain ⟨⟨t414, t415, t416, t417, t418, t419⟩, A690, H⟩ := H
               replace H : ((spec_Fits.f kj6 t396 t399 t414 t415 t416 t417 t418 t419).bind fun t420 => (some (t404 == t420))) = some r := H
               have A69 := Aside0.mk A690
               clear A690
               replace H := Option.bind_eq_some_iff.mp H
               obtain ⟨t420, A700, H⟩ := H
               replace H : (some (t404 == t420)) = some r := H
               have A70 := Aside0.mk A700
               clear A700
               obtain rfl := Option.some.inj H
               try go_wp2
               have n0_ := Aside0.mk (Kd.S_drew HO_401000.out)
               have n1_ := Aside0.mk (blk_drew BK393.out)
               have n2_ := Aside0.mk (blk_drew BK394.out)
               have n3_ := Aside0.mk (blk_drew BK400.out)
               have n4_ := Aside0.mk (below_drew1 HB.out)
               clear HO_401000
               clear BK393
               clear BK394
               clear BK400
               clear HB
               have HO_401000 := n0_
               have BK393 := n1_
               have BK394 := n2_
               have BK400 := n3_
               have HB := n4_
               clear n0_ n1_ n2_ n3_ n4_
               refine start_ (n := 13) (S := fun w' => w'.cell? ⟨gb400, 0, none⟩ = some (.slice Ao16 t396.length co16) ∧ w'.cell? ⟨gb400, 1, none⟩ = some (.bool t399) ∧ w'.cell? ⟨gb394, 0, none⟩ = some (.int .i64 a2_0) ∧ w'.cell? ⟨gb394, 1, none⟩ = some (.int .i64 a2_1) ∧ w'.cell? ⟨gb394, 2, none⟩ = some (.int .i64 a2_2) ∧ w'.cell? ⟨gb394, 3, none⟩ = some (.int .i64 a2_3) ∧ w'.cell? ⟨gb394, 4, none⟩ = some (.int .i64 a2_4) ∧ w'.cell? ⟨gb394, 5, none⟩ = some (.int .i64 a2_5)) (ds := []) #[false, false, false, false, false, false, false, false, false, false, false, false, false] (by kernel_rfl) rfl rfl ⟨(blk_cell BK400.out 0).trans rfl, (blk_cell BK400.out 1).trans rfl, (blk_cell BK394.out 0).trans rfl, (blk_cell BK394.out 1).trans rfl, (blk_cell BK394.out 2).trans rfl, (blk_cell BK394.out 3).trans rfl, (blk_cell BK394.out 4).trans rfl, (blk_cell BK394.out 5).trans rfl⟩ (fun hHeld => ?_); refine with_tabW laws_FnYear.tab6 laws_FnYear.bits6 (fun HT_ HW_ => ?_)
               generalize wc.drew = w71 at HO_401000 BK393 BK394 BK400 HB hHeld ⊢
               refine pure_ (i := 3) (N := some 37) (v := ?_) (a' := ?_) #[false, false, false, true, false, false, false, false, false, false, false, false, false] rfl rfl (any_of HT_.out (by kernel_rfl)) (fun _ _ _ h => h) (Or.inl ⟨by rfl, ?_⟩) ?_ ?_
               rotate_left
               ·intro w'
                go_simp
                with_reducible rfl
               rotate_left
               ·simp only [Act.put, List.setIfInBounds_toArray, List.set_cons_zero, List.set_cons_succ, i64_w, i32_w]
                rfl
               refine take_ (i := 0) (N := some 34) (v := ?_) (a' := ?_) #[true, false, false, true, false, false, false, false, false, false, false, false, false] rfl rfl (take_ofW HT_.out HW_.out (by kernel_rfl)) (fun _ _ _ h => h) (Or.inl ⟨by rfl, ?_⟩) hHeld ?_ ?_
               rotate_left
               ·rintro w' ⟨s0, s1, s2, s3, s4, s5, s6, s7⟩
                go_simp
                with_reducible rfl
               rotate_left
               ·simp only [Act.put, List.setIfInBounds_toArray, List.set_cons_zero, List.set_cons_succ, i64_w, i32_w]
                rfl
               refine take_ (i := 6) (N := some 40) (v := ?_) (a' := ?_) #[true, false, false, true, false, false, true, false, false, false, false, false, false] rfl rfl (take_ofW HT_.out HW_.out (by kernel_rfl)) (fun _ _ _ h => h) (Or.inl ⟨by rfl, ?_⟩) hHeld ?_ ?_
               rotate_left
               ·rintro w' ⟨s0, s1, s2, s3, s4, s5, s6, s7⟩
                go_simp
                with_reducible rfl
               rotate_left
               ·simp only [Act.put, List.setIfInBounds_toArray, List.set_cons_zero, List.set_cons_succ, i64_w, i32_w]
                rfl
               refine one_ (i := 1) (N := some 35) #[true, true, false, true, false, false, true, false, false, false, false, false, false] rfl rfl (one_of HT_.out (by kernel_rfl)) (by decide) (fun K hK => ?_)
               refine goes_ Tryz.func15 (by kernel_rfl) rfl #[.agg #[.slice Ao16 t396.length co16, .bool t399]] (by rfl) rfl rfl (by (try simp only [List.map_toArray, List.map_cons, List.map_nil]); first | done | rfl | (simp only [List.length_drop, List.length_take]; rfl)) ?_
               with_reducible refine (spec_Text.calls kj6 _ _ t396 t399 t402 _ ?side1 ?side2 A52.out).mono ?_
               (case side1 => repeat (first | exact (Kd.S_reads' HO_401000.out).2.2 | (with_reducible refine Kd.C_alloc ?_ _) | (with_reducible refine Kd.C_drewN ?_ _) | (with_reducible refine Kd.C_drew ?_)))
               (case side2 => exact (Kd.S_reads' HO_401000.out).2.1)
               rintro e w72 ⟨rfl, hb⟩
               refine ⟨_, rfl, ?_⟩
               have n0_ := Aside0.mk (Kd.S_below (by (with_reducible repeat (first | apply Kd.S_alloc | apply Kd.S_drewN | apply Kd.S_drew)); exact HO_401000.out) hb)
               have n1_ := Aside0.mk (blk_below (g := gb393) (o := .cells #[.slice A0_0 l0_0.length c0_0, .bool a0_1] 24 (0, 0)) (by (with_reducible repeat (first | refine blk_drewN ?_ _ | refine blk_drew ?_ | refine blk_alloc ?_ _)); exact BK393.out) hb)
               have n2_ := Aside0.mk (blk_below (g := gb394) (o := .cells #[.int .i64 a2_0, .int .i64 a2_1, .int .i64 a2_2, .int .i64 a2_3, .int .i64 a2_4, .int .i64 a2_5] 26 (0, 0)) (by (with_reducible repeat (first | refine blk_drewN ?_ _ | refine blk_drew ?_ | refine blk_alloc ?_ _)); exact BK394.out) hb)
               have n3_ := Aside0.mk (blk_below (g := gb400) (o := .cells #[.slice Ao16 t396.length co16, .bool t399] 30 (0, 0)) (by (with_reducible repeat (first | refine blk_drewN ?_ _ | refine blk_drew ?_ | refine blk_alloc ?_ _)); exact BK400.out) hb)
               have n4_ := Aside0.mk (below_step (by repeat (first | (with_reducible first | exact HB.out | apply below_alloc | apply pw_below_drewN | apply below_drew1 | refine below_set ?_ GE393.out | refine below_set ?_ GE394.out | refine below_set ?_ GE400.out) | exact HB.out)) hb)
               clear HO_401000
               clear BK393
               clear BK394
               clear BK400
               clear HB
               have HO_401000 := n0_
               have BK393 := n1_
               have BK394 := n2_
               have BK400 := n3_
               have HB := n4_
               clear n0_ n1_ n2_ n3_ n4_
               (try clear hb)
               (try clear hb2)
               (try clear hk)
               (try clear hi)
               refine hK.out _ _ ⟨(blk_cell BK400.out 0).trans rfl, (blk_cell BK400.out 1).trans rfl, (blk_cell BK394.out 0).trans rfl, (blk_cell BK394.out 1).trans rfl, (blk_cell BK394.out 2).trans rfl, (blk_cell BK394.out 3).trans rfl, (blk_cell BK394.out 4).trans rfl, (blk_cell BK394.out 5).trans rfl⟩ (fun hHeld => ?_)
               clear hK K
               refine norm_ (a' := ?_) ?_ ?_
               rotate_left
               ·show Act.put _ (some 35) _ = _
                simp only [Act.put, List.setIfInBounds_toArray, List.set_cons_zero, List.set_cons_succ, i64_w, i32_w]
                rfl
               refine pure_ (i := 2) (N := some 36) (v := ?_) (a' := ?_) #[true, true, true, true, false, false, true, false, false, false, false, false, false] rfl rfl (any_of HT_.out (by kernel_rfl)) (fun _ _ _ h => h) (Or.inl ⟨by rfl, ?_⟩) ?_ ?_
               rotate_left
               ·intro w'
                go_simp
                with_reducible rfl
               rotate_left
               ·simp only [Act.put, List.setIfInBounds_toArray, List.set_cons_zero, List.set_cons_succ, i64_w, i32_w]
                rfl
               refine one_ (i := 4) (N := some 38) #[true, true, true, true, true, false, true, false, false, false, false, false, false] rfl rfl (one_of HT_.out (by kernel_rfl)) (by decide) (fun K hK => ?_)
               refine goes_ Tryz.func24 (by kernel_rfl) rfl #[.int .i64 a1] (by rfl) rfl rfl (by (try simp only [List.map_toArray, List.map_cons, List.map_nil]); first | done | rfl | (simp only [List.length_drop, List.length_take]; rfl)) ?_
               with_reducible refine (spec_Decimal.calls kj6 a1 t403 _ A54.out).mono ?_
               rintro e w' ⟨rfl, ⟨nd, rfl⟩⟩
               refine ⟨_, rfl, ?_⟩
               refine hK.out _ _ ⟨(blk_cell BK400.out 0).trans rfl, (blk_cell BK400.out 1).trans rfl, (blk_cell BK394.out 0).trans rfl, (blk_cell BK394.out 1).trans rfl, (blk_cell BK394.out 2).trans rfl, (blk_cell BK394.out 3).trans rfl, (blk_cell BK394.out 4).trans rfl, (blk_cell BK394.out 5).trans rfl⟩ (fun hHeld => ?_)
               clear hK K
               refine norm_ (a' := ?_) ?_ ?_
               rotate_left
               ·show Act.put _ (some 38) _ = _
                simp only [Act.put, List.setIfInBounds_toArray, List.set_cons_zero, List.set_cons_succ, i64_w, i32_w]
                rfl
               refine pure_ (i := 5) (N := some 39) (v := ?_) (a' := ?_) #[true, true, true, true, true, true, true, false, false, false, false, false, false] rfl rfl (any_of HT_.out (by kernel_rfl)) (fun _ _ _ h => h) (Or.inl ⟨by rfl, ?_⟩) ?_ ?_
               rotate_left
               ·intro w'
                go_simp
                with_reducible rfl
               rotate_left
               ·simp only [Act.put, List.setIfInBounds_toArray, List.set_cons_zero, List.set_cons_succ, i64_w, i32_w]
                rfl
               refine one_ (i := 7) (N := some 41) #[true, true, true, true, true, true, true, true, false, false, false, false, false] rfl rfl (one_of HT_.out (by kernel_rfl)) (by decide) (fun K hK => ?_)
               refine goes_ Tryz.func14 (by kernel_rfl) rfl #[.string ((t402 ++ (⟨#[32]⟩ : ByteArray)) ++ t403), .agg #[.int .i64 a2_0, .int .i64 a2_1, .int .i64 a2_2, .int .i64 a2_3, .int .i64 a2_4, .int .i64 a2_5]] (by rfl) rfl rfl (by (try simp only [List.map_toArray, List.map_cons, List.map_nil]); first | done | rfl | (simp only [List.length_drop, List.length_take]; rfl)) ?_
               with_reducible refine (impl_Due.calls ((t402 ++ (⟨#[32]⟩ : ByteArray)) ++ t403) a2_0 a2_1 a2_2 a2_3 a2_4 a2_5 t404 true _ A56.out).mono ?_
               rintro e w73 ⟨rfl, hb⟩
               refine ⟨_, rfl, ?_⟩
               have n0_ := Aside0.mk (Kd.S_below (by (with_reducible repeat (first | apply Kd.S_alloc | apply Kd.S_drewN | apply Kd.S_drew)); exact HO_401000.out) hb)
               have n1_ := Aside0.mk (blk_below (g := gb393) (o := .cells #[.slice A0_0 l0_0.length c0_0, .bool a0_1] 24 (0, 0)) (by (with_reducible repeat (first | refine blk_drewN ?_ _ | refine blk_drew ?_ | refine blk_alloc ?_ _)); exact BK393.out) hb)
               have n2_ := Aside0.mk (blk_below (g := gb394) (o := .cells #[.int .i64 a2_0, .int .i64 a2_1, .int .i64 a2_2, .int .i64 a2_3, .int .i64 a2_4, .int .i64 a2_5] 26 (0, 0)) (by (with_reducible repeat (first | refine blk_drewN ?_ _ | refine blk_drew ?_ | refine blk_alloc ?_ _)); exact BK394.out) hb)
               have n3_ := Aside0.mk (blk_below (g := gb400) (o := .cells #[.slice Ao16 t396.length co16, .bool t399] 30 (0, 0)) (by (with_reducible repeat (first | refine blk_drewN ?_ _ | refine blk_drew ?_ | refine blk_alloc ?_ _)); exact BK400.out) hb)
               have n4_ := Aside0.mk (below_step (by repeat (first | (with_reducible first | exact HB.out | apply below_alloc | apply pw_below_drewN | apply below_drew1 | refine below_set ?_ GE393.out | refine below_set ?_ GE394.out | refine below_set ?_ GE400.out) | exact HB.out)) hb)
               clear HO_401000
               clear BK393
               clear BK394
               clear BK400
               clear HB
               have HO_401000 := n0_
               have BK393 := n1_
               have BK394 := n2_
               have BK400 := n3_
               have HB := n4_
               clear n0_ n1_ n2_ n3_ n4_
               (try clear hb)
               (try clear hb2)
               (try clear hk)
               (try clear hi)
               refine hK.out _ _ ⟨(blk_cell BK400.out 0).trans rfl, (blk_cell BK400.out 1).trans rfl, (blk_cell BK394.out 0).trans rfl, (blk_cell BK394.out 1).trans rfl, (blk_cell BK394.out 2).trans rfl, (blk_cell BK394.out 3).trans rfl, (blk_cell BK394.out 4).trans rfl, (blk_cell BK394.out 5).trans rfl⟩ (fun hHeld => ?_)
               clear hK K
               refine norm_ (a' := ?_) ?_ ?_
               rotate_left
               ·show Act.put _ (some 41) _ = _
                simp only [Act.put, List.setIfInBounds_toArray, List.set_cons_zero, List.set_cons_succ, i64_w, i32_w]
                rfl
               refine pure_ (i := 8) (N := some 33) (v := ?_) (a' := ?_) #[true, true, true, true, true, true, true, true, true, false, false, false, false] rfl rfl (any_of HT_.out (by kernel_rfl)) (fun _ _ _ h => h) (Or.inl ⟨by rfl, ?_⟩) ?_ ?_
               rotate_left
               ·intro w'
                go_simp
                with_reducible rfl
               rotate_left
               ·simp only [Act.put, List.setIfInBounds_toArray, List.set_cons_zero, List.set_cons_succ, i64_w, i32_w]
                rfl
               refine pure_ (i := 9) (N := some 42) (v := ?_) (a' := ?_) #[true, true, true, true, true, true, true, true, true, true, false, false, false] rfl rfl (any_of HT_.out (by kernel_rfl)) (fun _ _ _ h => h) (Or.inl ⟨by rfl, ?_⟩) ?_ ?_
               rotate_left
               ·intro w'
                go_simp
                with_reducible rfl
               rotate_left
               ·simp only [Act.put, List.setIfInBounds_toArray, List.set_cons_zero, List.set_cons_succ, i64_w, i32_w]
                rfl
               refine pure_ (i := 10) (N := some 43) (v := ?_) (a' := ?_) #[true, true, true, true, true, true, true, true, true, true, true, false, false] rfl rfl (any_of HT_.out (by kernel_rfl)) (fun _ _ _ h => h) (Or.inl ⟨by rfl, ?_⟩) ?_ ?_
               rotate_left
               ·intro w'
                go_simp
                with_reducible rfl
               rotate_left
               ·simp only [Act.put, List.setIfInBounds_toArray, List.set_cons_zero, List.set_cons_succ, i64_w, i32_w]
                rfl
               refine pure_ (i := 11) (N := some 8) (v := ?_) (a' := ?_) #[true, true, true, true, true, true, true, true, true, true, true, true, false] rfl rfl (any_of HT_.out (by kernel_rfl)) (fun _ _ _ h => h) (Or.inl ⟨by rfl, ?_⟩) ?_ ?_
               rotate_left
               ·intro w'
                go_simp
                with_reducible rfl
               rotate_left
               ·simp only [Act.put, List.setIfInBounds_toArray, List.set_cons_zero, List.set_cons_succ, i64_w, i32_w]
                rfl
               refine pure_ (i := 12) (N := some 9) (v := ?_) (a' := ?_) #[true, true, true, true, true, true, true, true, true, true, true, true, true] rfl rfl (any_of HT_.out (by kernel_rfl)) (fun _ _ _ h => h) (Or.inl ⟨by rfl, ?_⟩) ?_ ?_
               rotate_left
               ·intro w'
                go_simp
                with_reducible rfl
               rotate_left
               ·simp only [Act.put, List.setIfInBounds_toArray, List.set_cons_zero, List.set_cons_succ, i64_w, i32_w]
                rfl
               refine done_ (done_of HT_.out (by kernel_rfl)) ?_
               have hnb74 := NB400_393.out
               have hnc74 := NB393_400.out
               have hnb75 := NB400_394.out
               have hnc75 := NB394_400.out
               have hcz76_0 : w73.cell? ⟨gb400, 0, none⟩ = some (.slice Ao16 t396.length co16) := (blk_cell BK400.out 0).trans rfl
               have hcz76_1 : w73.cell? ⟨gb400, 1, none⟩ = some (.bool t399) := (blk_cell BK400.out 1).trans rfl
               have hfz76_0 := blk_frozen BK400.out 0
               have hfz76_1 := blk_frozen BK400.out 1
               try go_wp2_with (first | ((with_reducible refine gate_callee (f := 15) rfl ?_); refine goesL_ (some 46) rfl rfl Tryz.func15 (by kernel_rfl) rfl #[.agg #[.slice Ao16 t396.length co16, .bool t399]] rfl (by (try simp only [List.map_toArray, List.map_cons, List.map_nil]); first | done | rfl | (simp only [List.length_drop, List.length_take]; rfl)) ?_; (with_reducible refine (spec_Text.calls kj6 _ _ t396 t399 t406 _ ?side1 ?side2 A57.out).mono ?_); (case side1 => repeat (first | exact (Kd.S_reads' HO_401000.out).2.2 | (with_reducible refine Kd.C_alloc ?_ _) | (with_reducible refine Kd.C_drewN ?_ _) | (with_reducible refine Kd.C_drew ?_))); (case side2 => exact (Kd.S_reads' HO_401000.out).2.1); rintro e w77 ⟨rfl, hb⟩; refine ⟨_, rfl, ?_⟩; have n0_ := Aside0.mk (Kd.S_below (by (with_reducible repeat (first | apply Kd.S_alloc | apply Kd.S_drewN | apply Kd.S_drew)); exact HO_401000.out) hb); have n1_ := Aside0.mk (blk_below (g := gb393) (o := .cells #[.slice A0_0 l0_0.length c0_0, .bool a0_1] 24 (0, 0)) (by (with_reducible repeat (first | refine blk_drewN ?_ _ | refine blk_drew ?_ | refine blk_alloc ?_ _)); exact BK393.out) hb); have n2_ := Aside0.mk (blk_below (g := gb394) (o := .cells #[.int .i64 a2_0, .int .i64 a2_1, .int .i64 a2_2, .int .i64 a2_3, .int .i64 a2_4, .int .i64 a2_5] 26 (0, 0)) (by (with_reducible repeat (first | refine blk_drewN ?_ _ | refine blk_drew ?_ | refine blk_alloc ?_ _)); exact BK394.out) hb); have n3_ := Aside0.mk (blk_below (g := gb400) (o := .cells #[.slice Ao16 t396.length co16, .bool t399] 30 (0, 0)) (by (with_reducible repeat (first | refine blk_drewN ?_ _ | refine blk_drew ?_ | refine blk_alloc ?_ _)); exact BK400.out) hb); have n4_ := Aside0.mk (below_step (by repeat (first | (with_reducible first | exact HB.out | apply below_alloc | apply pw_below_drewN | apply below_drew1 | refine below_set ?_ GE393.out | refine below_set ?_ GE394.out | refine below_set ?_ GE400.out) | exact HB.out)) hb); clear HO_401000; clear BK393; clear BK394; clear BK400; clear HB; have HO_401000 := n0_; have BK393 := n1_; have BK394 := n2_; have BK400 := n3_; have HB := n4_; clear n0_ n1_ n2_ n3_ n4_; (try clear hb); (try clear hb2); (try clear hk); (try clear hi)) | ((with_reducible refine gate_callee (f := 24) rfl ?_); refine goesL_ (some 49) rfl rfl Tryz.func24 (by kernel_rfl) rfl #[.int .i64 a1] rfl (by (try simp only [List.map_toArray, List.map_cons, List.map_nil]); first | done | rfl | (simp only [List.length_drop, List.length_take]; rfl)) ?_; (with_reducible refine (spec_Decimal.calls kj6 a1 t407 _ A59.out).mono ?_); rintro e w' ⟨rfl, ⟨nd, rfl⟩⟩; refine ⟨_, rfl, ?_⟩) | ((with_reducible refine gate_callee (f := 26) rfl ?_); refine goesL_ (some 51) rfl rfl Tryz.func26 (by kernel_rfl) rfl #[.string ((t406 ++ (⟨#[32]⟩ : ByteArray)) ++ t407)] rfl (by (try simp only [List.map_toArray, List.map_cons, List.map_nil]); first | done | rfl | (simp only [List.length_drop, List.length_take]; rfl)) ?_; (with_reducible refine (impl_Parts.calls kj6 ((t406 ++ (⟨#[32]⟩ : ByteArray)) ++ t407) t408 true _ A61.out).mono ?_); rintro e w78 ⟨v410, rfl, ho0, hb⟩; refine ⟨_, rfl, ?_⟩; have n0_ := Aside0.mk (Kd.S_below (by (with_reducible repeat (first | apply Kd.S_alloc | apply Kd.S_drewN | apply Kd.S_drew)); exact HO_401000.out) hb); have n1_ := Aside0.mk (Kd.R_lower ho0 (below_size (by repeat (first | (with_reducible first | exact HB.out | apply below_alloc | apply pw_below_drewN | apply below_drew1 | refine below_set ?_ GE393.out | refine below_set ?_ GE394.out | refine below_set ?_ GE400.out) | exact HB.out)))); have n2_ := Aside0.mk (blk_below (g := gb393) (o := .cells #[.slice A0_0 l0_0.length c0_0, .bool a0_1] 24 (0, 0)) (by (with_reducible repeat (first | refine blk_drewN ?_ _ | refine blk_drew ?_ | refine blk_alloc ?_ _)); exact BK393.out) hb); have n3_ := Aside0.mk (blk_below (g := gb394) (o := .cells #[.int .i64 a2_0, .int .i64 a2_1, .int .i64 a2_2, .int .i64 a2_3, .int .i64 a2_4, .int .i64 a2_5] 26 (0, 0)) (by (with_reducible repeat (first | refine blk_drewN ?_ _ | refine blk_drew ?_ | refine blk_alloc ?_ _)); exact BK394.out) hb); have n4_ := Aside0.mk (blk_below (g := gb400) (o := .cells #[.slice Ao16 t396.length co16, .bool t399] 30 (0, 0)) (by (with_reducible repeat (first | refine blk_drewN ?_ _ | refine blk_drew ?_ | refine blk_alloc ?_ _)); exact BK400.out) hb); have n5_ := Aside0.mk (below_step (by repeat (first | (with_reducible first | exact HB.out | apply below_alloc | apply pw_below_drewN | apply below_drew1 | refine below_set ?_ GE393.out | refine below_set ?_ GE394.out | refine below_set ?_ GE400.out) | exact HB.out)) hb); clear HO_401000; clear BK393; clear BK394; clear BK400; clear HB; have HO_401000 := n0_; have HO411 := n1_; have BK393 := n2_; have BK394 := n3_; have BK400 := n4_; have HB := n5_; clear n0_ n1_ n2_ n3_ n4_ n5_; (try clear hb); (try clear hb2); (try clear hk); (try clear hi); (try clear ho0)))
               have n0_ := Aside0.mk (Kd.S_drew HO_401000.out)
               have n1_ := Aside0.mk (Kd.R_drew HO411.out)
               have n2_ := Aside0.mk (blk_drew BK393.out)
               have n3_ := Aside0.mk (blk_drew BK394.out)
               have n4_ := Aside0.mk (blk_drew BK400.out)
               have n5_ := Aside0.mk (below_drew1 HB.out)
               clear HO_401000
               clear HO411
               clear BK393
               clear BK394
               clear BK400
               clear HB
               have HO_401000 := n0_
               have HO411 := n1_
               have BK393 := n2_
               have BK394 := n3_
               have BK400 := n4_
               have HB := n5_
               clear n0_ n1_ n2_ n3_ n4_ n5_
               obtain ⟨Ao80, co80, eo80⟩ := Kd.R_slice HO411.out
               (first | subst eo80 | (injection eo80 with f1_ f2_ f3_; have f4_ := f1_.symm; have f5_ := f3_.symm; clear f1_ f2_ f3_; subst f4_; subst f5_))
               have p412 : 0 ≤ (6 : Int) := (by omega)
               have q412 : 6 < (t408.length : Int) := of_decide_eq_true (by first | (with_reducible assumption) | assumption)
               obtain ⟨ad412, e412, hx412_0⟩ := Kd.at_string (Kd.R_reads' HO411.out).2.2 6 p412 q412
               cases e412
               (try simp only [show (6 : Int).toNat = 6 from rfl, Nat.reduceMul, Nat.reduceEqDiff, Go.Addr.add, ↓reduceIte] at hx412_0)
               have qi412 : (6 < t408.length) = True := eq_true (by omega)
               (try rw [show ((6 : Int)).toNat = 6 from rfl] at hx412_0)
               replace p412 := eq_true p412
               replace q412 := eq_true q412
               refine start_ (n := 32) (S := fun w' => w'.cell? ⟨gb394, 0, none⟩ = some (.int .i64 a2_0) ∧ w'.cell? ⟨gb394, 1, none⟩ = some (.int .i64 a2_1) ∧ w'.cell? ⟨gb394, 2, none⟩ = some (.int .i64 a2_2) ∧ w'.cell? ⟨gb394, 3, none⟩ = some (.int .i64 a2_3) ∧ w'.cell? ⟨gb394, 4, none⟩ = some (.int .i64 a2_4) ∧ w'.cell? ⟨gb394, 5, none⟩ = some (.int .i64 a2_5) ∧ w'.cell? ⟨gb400, 0, none⟩ = some (.slice Ao16 t396.length co16) ∧ w'.cell? ⟨gb400, 1, none⟩ = some (.bool t399) ∧ w'.cell? ⟨ad412.block, ad412.off + 6, none⟩ = some (.string (rdOf ByteArray.empty t408 6))) (ds := []) (laws_FnYear.Y 0) (by kernel_rfl) rfl rfl ⟨(blk_cell BK394.out 0).trans rfl, (blk_cell BK394.out 1).trans rfl, (blk_cell BK394.out 2).trans rfl, (blk_cell BK394.out 3).trans rfl, (blk_cell BK394.out 4).trans rfl, (blk_cell BK394.out 5).trans rfl, (blk_cell BK400.out 0).trans rfl, (blk_cell BK400.out 1).trans rfl, hx412_0⟩ (fun hHeld => ?_); refine with_tabW laws_FnYear.tab8 laws_FnYear.bits8 (fun HT_ HW_ => ?_)
               generalize w78.drew = w79 at HO_401000 HO411 BK393 BK394 BK400 HB hx412_0 hHeld ⊢
               refine pure_ (i := 0) (N := some 54) (v := ?_) (a' := ?_) (laws_FnYear.Y 1) rfl rfl (any_of HT_.out (by kernel_rfl)) (fun _ _ _ h => h) (Or.inl ⟨by rfl, ?_⟩) ?_ ?_
               rotate_left
               ·intro w'
                go_simp
                with_reducible rfl
               rotate_left
               ·simp only [Act.put, List.setIfInBounds_toArray, List.set_cons_zero, List.set_cons_succ, i64_w, i32_w]
                rfl
               refine pure_ (i := 1) (N := some 55) (v := ?_) (a' := ?_) (laws_FnYear.Y 3) rfl rfl (any_of HT_.out (by kernel_rfl)) (fun _ _ _ h => h) (Or.inl ⟨by rfl, ?_⟩) ?_ ?_
               rotate_left
               ·intro w'
                go_simp
                with_reducible rfl
               rotate_left
               ·simp only [Act.put, List.setIfInBounds_toArray, List.set_cons_zero, List.set_cons_succ, i64_w, i32_w]
                rfl
               refine pure_ (i := 2) (N := some 56) (v := ?_) (a' := ?_) (laws_FnYear.Y 7) rfl rfl (any_of HT_.out (by kernel_rfl)) (fun _ _ _ h => h) (Or.inl ⟨by rfl, ?_⟩) ?_ ?_
               rotate_left
               ·intro w'
                go_simp
                with_reducible rfl
               rotate_left
               ·simp only [Act.put, List.setIfInBounds_toArray, List.set_cons_zero, List.set_cons_succ, i64_w, i32_w]
                rfl
               refine pure_ (i := 3) (N := some 57) (v := ?_) (a' := ?_) (laws_FnYear.Y 15) rfl rfl (any_of HT_.out (by kernel_rfl)) (fun _ _ _ h => h) (Or.inl ⟨by rfl, ?_⟩) ?_ ?_
               rotate_left
               ·intro w'
                go_simp
                with_reducible rfl
               rotate_left
               ·simp only [Act.put, List.setIfInBounds_toArray, List.set_cons_zero, List.set_cons_succ, i64_w, i32_w]
                rfl
               refine pure_ (i := 4) (N := some 58) (v := ?_) (a' := ?_) (laws_FnYear.Y 31) rfl rfl (any_of HT_.out (by kernel_rfl)) (fun _ _ _ h => h) (Or.inl ⟨by rfl, ?_⟩) ?_ ?_
               rotate_left
               ·intro w'
                go_simp
                with_reducible rfl
               rotate_left
               ·simp only [Act.put, List.setIfInBounds_toArray, List.set_cons_zero, List.set_cons_succ, i64_w, i32_w]
                rfl
               refine pure_ (i := 5) (N := some 59) (v := ?_) (a' := ?_) (laws_FnYear.Y 63) rfl rfl (any_of HT_.out (by kernel_rfl)) (fun _ _ _ h => h) (Or.inl ⟨by rfl, ?_⟩) ?_ ?_
               rotate_left
               ·intro w'
                go_simp
                with_reducible rfl
               rotate_left
               ·simp only [Act.put, List.setIfInBounds_toArray, List.set_cons_zero, List.set_cons_succ, i64_w, i32_w]
                rfl
               refine pure_ (i := 6) (N := some 60) (v := ?_) (a' := ?_) (laws_FnYear.Y 127) rfl rfl (any_of HT_.out (by kernel_rfl)) (fun _ _ _ h => h) (Or.inl ⟨by rfl, ?_⟩) ?_ ?_
               rotate_left
               ·intro w'
                go_simp
                with_reducible rfl
               rotate_left
               ·simp only [Act.put, List.setIfInBounds_toArray, List.set_cons_zero, List.set_cons_succ, i64_w, i32_w]
                rfl
               refine pure_ (i := 7) (N := some 61) (v := ?_) (a' := ?_) (laws_FnYear.Y 255) rfl rfl (any_of HT_.out (by kernel_rfl)) (fun _ _ _ h => h) (Or.inl ⟨by rfl, ?_⟩) ?_ ?_
               rotate_left
               ·intro w'
                go_simp
                with_reducible rfl
               rotate_left
               ·simp only [Act.put, List.setIfInBounds_toArray, List.set_cons_zero, List.set_cons_succ, i64_w, i32_w]
                rfl
               refine pure_ (i := 8) (N := some 62) (v := ?_) (a' := ?_) (laws_FnYear.Y 511) rfl rfl (any_of HT_.out (by kernel_rfl)) (fun _ _ _ h => h) (Or.inl ⟨by rfl, ?_⟩) ?_ ?_
               rotate_left
               ·intro w'
                go_simp
                with_reducible rfl
               rotate_left
               ·simp only [Act.put, List.setIfInBounds_toArray, List.set_cons_zero, List.set_cons_succ, i64_w, i32_w]
                rfl
               refine pure_ (i := 9) (N := some 63) (v := ?_) (a' := ?_) (laws_FnYear.Y 1023) rfl rfl (any_of HT_.out (by kernel_rfl)) (fun _ _ _ h => h) (Or.inl ⟨by rfl, ?_⟩) ?_ ?_
               rotate_left
               ·intro w'
                go_simp
                with_reducible rfl
               rotate_left
               ·simp only [Act.put, List.setIfInBounds_toArray, List.set_cons_zero, List.set_cons_succ, i64_w, i32_w]
                rfl
               refine pure_ (i := 10) (N := some 64) (v := ?_) (a' := ?_) (laws_FnYear.Y 2047) rfl rfl (any_of HT_.out (by kernel_rfl)) (fun _ _ _ h => h) (Or.inl ⟨by rfl, ?_⟩) ?_ ?_
               rotate_left
               ·intro w'
                go_simp
                with_reducible rfl
               rotate_left
               ·simp only [Act.put, List.setIfInBounds_toArray, List.set_cons_zero, List.set_cons_succ, i64_w, i32_w]
                rfl
               refine pure_ (i := 11) (N := some 65) (v := ?_) (a' := ?_) (laws_FnYear.Y 4095) rfl rfl (any_of HT_.out (by kernel_rfl)) (fun _ _ _ h => h) (Or.inl ⟨by rfl, ?_⟩) ?_ ?_
               rotate_left
               ·intro w'
                go_simp
                with_reducible rfl
               rotate_left
               ·simp only [Act.put, List.setIfInBounds_toArray, List.set_cons_zero, List.set_cons_succ, i64_w, i32_w]
                rfl
               refine pure_ (i := 13) (N := some 67) (v := ?_) (a' := ?_) (laws_FnYear.Y 12287) rfl rfl (any_of HT_.out (by kernel_rfl)) (fun _ _ _ h => h) (Or.inl ⟨by rfl, ?_⟩) ?_ ?_
               rotate_left
               ·intro w'
                go_simp
                with_reducible rfl
               rotate_left
               ·simp only [Act.put, List.setIfInBounds_toArray, List.set_cons_zero, List.set_cons_succ, i64_w, i32_w]
                rfl
               refine take_ (i := 12) (N := some 66) (v := ?_) (a' := ?_) (laws_FnYear.Y 16383) rfl rfl (take_ofW HT_.out HW_.out (by kernel_rfl)) (fun _ _ _ h => h) (Or.inl ⟨by rfl, ?_⟩) hHeld ?_ ?_
               rotate_left
               ·rintro w' ⟨s0, s1, s2, s3, s4, s5, s6, s7, s8⟩
                go_simp
                with_reducible rfl
               rotate_left
               ·simp only [Act.put, List.setIfInBounds_toArray, List.set_cons_zero, List.set_cons_succ, i64_w, i32_w]
                rfl
               refine one_ (i := 14) (N := some 68) (laws_FnYear.Y 32767) rfl rfl (one_of HT_.out (by kernel_rfl)) (by decide) (fun K hK => ?_)
               refine goes_ Tryz.func24 (by kernel_rfl) rfl #[.int .i64 a1] (by rfl) rfl rfl (by (try simp only [List.map_toArray, List.map_cons, List.map_nil]); first | done | rfl | (simp only [List.length_drop, List.length_take]; rfl)) ?_
               with_reducible refine (spec_Decimal.calls kj6 a1 t413 _ A66.out).mono ?_
               rintro e w' ⟨rfl, ⟨nd, rfl⟩⟩
               refine ⟨_, rfl, ?_⟩
               refine hK.out _ _ ⟨(blk_cell BK394.out 0).trans rfl, (blk_cell BK394.out 1).trans rfl, (blk_cell BK394.out 2).trans rfl, (blk_cell BK394.out 3).trans rfl, (blk_cell BK394.out 4).trans rfl, (blk_cell BK394.out 5).trans rfl, (blk_cell BK400.out 0).trans rfl, (blk_cell BK400.out 1).trans rfl, hHeld.2.2.2.2.2.2.2.2⟩ (fun hHeld => ?_)
               clear hK K
               refine norm_ (a' := ?_) ?_ ?_
               rotate_left
               ·show Act.put _ (some 68) _ = _
                simp only [Act.put, List.setIfInBounds_toArray, List.set_cons_zero, List.set_cons_succ, i64_w, i32_w]
                rfl
               refine pure_ (i := 15) (N := some 69) (v := ?_) (a' := ?_) (laws_FnYear.Y 65535) rfl rfl (any_of HT_.out (by kernel_rfl)) (fun _ _ _ h => h) (Or.inl ⟨by rfl, ?_⟩) ?_ ?_
               rotate_left
               ·intro w'
                go_simp
                with_reducible rfl
               rotate_left
               ·simp only [Act.put, List.setIfInBounds_toArray, List.set_cons_zero, List.set_cons_succ, i64_w, i32_w]
                rfl
               refine pure_ (i := 16) (N := some 70) (v := ?_) (a' := ?_) (laws_FnYear.Y 131071) rfl rfl (any_of HT_.out (by kernel_rfl)) (fun _ _ _ h => h) (Or.inl ⟨by rfl, ?_⟩) ?_ ?_
               rotate_left
               ·intro w'
                go_simp
                with_reducible rfl
               rotate_left
               ·simp only [Act.put, List.setIfInBounds_toArray, List.set_cons_zero, List.set_cons_succ, i64_w, i32_w]
                rfl
               refine pure_ (i := 17) (N := some 71) (v := ?_) (a' := ?_) (laws_FnYear.Y 262143) rfl rfl (any_of HT_.out (by kernel_rfl)) (fun _ _ _ h => h) (Or.inl ⟨by rfl, ?_⟩) ?_ ?_
               rotate_left
               ·intro w'
                go_simp
                with_reducible rfl
               rotate_left
               ·simp only [Act.put, List.setIfInBounds_toArray, List.set_cons_zero, List.set_cons_succ, i64_w, i32_w]
                rfl
               refine pure_ (i := 18) (N := some 72) (v := ?_) (a' := ?_) (laws_FnYear.Y 524287) rfl rfl (any_of HT_.out (by kernel_rfl)) (fun _ _ _ h => h) (Or.inl ⟨by rfl, ?_⟩) ?_ ?_
               rotate_left
               ·intro w'
                go_simp
                with_reducible rfl
               rotate_left
               ·simp only [Act.put, List.setIfInBounds_toArray, List.set_cons_zero, List.set_cons_succ, i64_w, i32_w]
                rfl
               refine pure_ (i := 19) (N := some 73) (v := ?_) (a' := ?_) (laws_FnYear.Y 1048575) rfl rfl (any_of HT_.out (by kernel_rfl)) (fun _ _ _ h => h) (Or.inl ⟨by rfl, ?_⟩) ?_ ?_
               rotate_left
               ·intro w'
                go_simp
                with_reducible rfl
               rotate_left
               ·simp only [Act.put, List.setIfInBounds_toArray, List.set_cons_zero, List.set_cons_succ, i64_w, i32_w]
                rfl
               refine pure_ (i := 21) (N := some 75) (v := ?_) (a' := ?_) (laws_FnYear.Y 3145727) rfl rfl (any_of HT_.out (by kernel_rfl)) (fun _ _ _ h => h) (Or.inl ⟨by rfl, ?_⟩) ?_ ?_
               rotate_left
               ·intro w'
                go_simp
                with_reducible rfl
               rotate_left
               ·simp only [Act.put, List.setIfInBounds_toArray, List.set_cons_zero, List.set_cons_succ, i64_w, i32_w]
                rfl
               refine take_ (i := 20) (N := some 74) (v := ?_) (a' := ?_) (laws_FnYear.Y 4194303) rfl rfl (take_ofW HT_.out HW_.out (by kernel_rfl)) (fun _ _ _ h => h) (Or.inl ⟨by rfl, ?_⟩) hHeld ?_ ?_
               rotate_left
               ·rintro w' ⟨s0, s1, s2, s3, s4, s5, s6, s7, s8⟩
                go_simp
                with_reducible rfl
               rotate_left
               ·simp only [Act.put, List.setIfInBounds_toArray, List.set_cons_zero, List.set_cons_succ, i64_w, i32_w]
                rfl
               refine pure_ (i := 22) (N := some 76) (v := ?_) (a' := ?_) (laws_FnYear.Y 8388607) rfl rfl (any_of HT_.out (by kernel_rfl)) (fun _ _ _ h => h) (Or.inl ⟨by rfl, ?_⟩) ?_ ?_
               rotate_left
               ·intro w'
                go_simp
                with_reducible rfl
               rotate_left
               ·simp only [Act.put, List.setIfInBounds_toArray, List.set_cons_zero, List.set_cons_succ, i64_w, i32_w]
                rfl
               refine pure_ (i := 23) (N := some 77) (v := ?_) (a' := ?_) (laws_FnYear.Y 16777215) rfl rfl (any_of HT_.out (by kernel_rfl)) (fun _ _ _ h => h) (Or.inl ⟨by rfl, ?_⟩) ?_ ?_
               rotate_left
               ·intro w'
                go_simp
                with_reducible rfl
               rotate_left
               ·simp only [Act.put, List.setIfInBounds_toArray, List.set_cons_zero, List.set_cons_succ, i64_w, i32_w]
                rfl
               refine take_ (i := 24) (N := some 78) (v := ?_) (a' := ?_) (laws_FnYear.Y 33554431) rfl rfl (take_ofW HT_.out HW_.out (by kernel_rfl)) (fun _ _ _ h => h) (Or.inl ⟨by rfl, ?_⟩) hHeld ?_ ?_
               rotate_left
               ·rintro w' ⟨s0, s1, s2, s3, s4, s5, s6, s7, s8⟩
                go_simp
                with_reducible rfl
               rotate_left
               ·simp only [Act.put, List.setIfInBounds_toArray, List.set_cons_zero, List.set_cons_succ, i64_w, i32_w]
                rfl
               refine take_ (i := 25) (N := some 79) (v := ?_) (a' := ?_) (laws_FnYear.Y 67108863) rfl rfl (take_ofW HT_.out HW_.out (by kernel_rfl)) (fun _ _ _ h => h) (Or.inl ⟨by rfl, ?_⟩) hHeld ?_ ?_
               rotate_left
               ·rintro w' ⟨s0, s1, s2, s3, s4, s5, s6, s7, s8⟩
                go_simp
                with_reducible rfl
               rotate_left
               ·simp only [Act.put, List.setIfInBounds_toArray, List.set_cons_zero, List.set_cons_succ, i64_w, i32_w]
                rfl
               refine one_ (i := 26) (N := some 80) (laws_FnYear.Y 134217727) rfl rfl (one_of HT_.out (by kernel_rfl)) (by decide) (fun K hK => ?_)
               refine goes_ Tryz.func19 (by kernel_rfl) rfl #[.agg #[.int .i64 a2_0, .int .i64 a2_1, .int .i64 a2_2, .int .i64 a2_3, .int .i64 a2_4, .int .i64 a2_5]] (by rfl) rfl rfl (by (try simp only [List.map_toArray, List.map_cons, List.map_nil]); first | done | rfl | (simp only [List.length_drop, List.length_take]; rfl)) ?_
               with_reducible refine (laws_moment.calls a2_0 a2_1 a2_2 a2_3 a2_4 a2_5 t414 t415 t416 t417 t418 t419 _ A69.out).mono ?_
               rintro e w81 ⟨rfl, hb⟩
               have HS8_ := (hb.cell (World.block_lt_of_cell? _ _ (hHeld.2.2.2.2.2.2.2.2))).trans (hHeld.2.2.2.2.2.2.2.2)
               refine ⟨_, rfl, ?_⟩
               have n0_ := Aside0.mk (Kd.S_below (by (with_reducible repeat (first | apply Kd.S_alloc | apply Kd.S_drewN | apply Kd.S_drew)); exact HO_401000.out) hb)
               have n1_ := Aside0.mk (Kd.R_below (by (with_reducible repeat (first | apply Kd.R_alloc | apply Kd.R_drewN | apply Kd.R_drew)); exact HO411.out) hb)
               have n2_ := Aside0.mk (blk_below (g := gb393) (o := .cells #[.slice A0_0 l0_0.length c0_0, .bool a0_1] 24 (0, 0)) (by (with_reducible repeat (first | refine blk_drewN ?_ _ | refine blk_drew ?_ | refine blk_alloc ?_ _)); exact BK393.out) hb)
               have n3_ := Aside0.mk (blk_below (g := gb394) (o := .cells #[.int .i64 a2_0, .int .i64 a2_1, .int .i64 a2_2, .int .i64 a2_3, .int .i64 a2_4, .int .i64 a2_5] 26 (0, 0)) (by (with_reducible repeat (first | refine blk_drewN ?_ _ | refine blk_drew ?_ | refine blk_alloc ?_ _)); exact BK394.out) hb)
               have n4_ := Aside0.mk (blk_below (g := gb400) (o := .cells #[.slice Ao16 t396.length co16, .bool t399] 30 (0, 0)) (by (with_reducible repeat (first | refine blk_drewN ?_ _ | refine blk_drew ?_ | refine blk_alloc ?_ _)); exact BK400.out) hb)
               have n5_ := Aside0.mk (below_step (by repeat (first | (with_reducible first | exact HB.out | apply below_alloc | apply pw_below_drewN | apply below_drew1 | refine below_set ?_ GE393.out | refine below_set ?_ GE394.out | refine below_set ?_ GE400.out) | exact HB.out)) hb)
               clear HO_401000
               clear HO411
               clear BK393
               clear BK394
               clear BK400
               clear HB
               have HO_401000 := n0_
               have HO411 := n1_
               have BK393 := n2_
               have BK394 := n3_
               have BK400 := n4_
               have HB := n5_
               clear n0_ n1_ n2_ n3_ n4_ n5_
               (try clear hb)
               (try clear hb2)
               (try clear hk)
               (try clear hi)
               refine hK.out _ _ ⟨(blk_cell BK394.out 0).trans rfl, (blk_cell BK394.out 1).trans rfl, (blk_cell BK394.out 2).trans rfl, (blk_cell BK394.out 3).trans rfl, (blk_cell BK394.out 4).trans rfl, (blk_cell BK394.out 5).trans rfl, (blk_cell BK400.out 0).trans rfl, (blk_cell BK400.out 1).trans rfl, HS8_⟩ (fun hHeld => ?_)
               clear hK K
               refine norm_ (a' := ?_) ?_ ?_
               rotate_left
               ·show Act.put _ (some 80) _ = _
                simp only [Act.put, List.setIfInBounds_toArray, List.set_cons_zero, List.set_cons_succ, i64_w, i32_w]
                rfl
               refine one_ (i := 27) (N := some 81) (laws_FnYear.Y 268435455) rfl rfl (one_of HT_.out (by kernel_rfl)) (by decide) (fun K hK => ?_)
               refine goes_ Tryz.func18 (by kernel_rfl) rfl #[.agg #[.slice Ao16 t396.length co16, .bool t399], .agg #[.int .i64 t414, .int .i64 t415, .int .i64 t416, .int .i64 t417, .int .i64 t418, .int .i64 t419]] (by rfl) rfl rfl (by (try simp only [List.map_toArray, List.map_cons, List.map_nil]); first | done | rfl | (simp only [List.length_drop, List.length_take]; rfl)) ?_
               with_reducible refine (spec_Fits.calls kj6 _ _ t396 t399 t414 t415 t416 t417 t418 t419 t420 _ ?side1 ?side2 A70.out).mono ?_
               (case side1 => repeat (first | exact (Kd.S_reads' HO_401000.out).2.2 | (with_reducible refine Kd.C_alloc ?_ _) | (with_reducible refine Kd.C_drewN ?_ _) | (with_reducible refine Kd.C_drew ?_)))
               (case side2 => exact (Kd.S_reads' HO_401000.out).2.1)
               rintro e w82 ⟨rfl, hb⟩
               have HS8_ := (hb.cell (World.block_lt_of_cell? _ _ (hHeld.2.2.2.2.2.2.2.2))).trans (hHeld.2.2.2.2.2.2.2.2)
               refine ⟨_, rfl, ?_⟩
               have n0_ := Aside0.mk (Kd.S_below (by (with_reducible repeat (first | apply Kd.S_alloc | apply Kd.S_drewN | apply Kd.S_drew)); exact HO_401000.out) hb)
               have n1_ := Aside0.mk (Kd.R_below (by (with_reducible repeat (first | apply Kd.R_alloc | apply Kd.R_drewN | apply Kd.R_drew)); exact HO411.out) hb)
               have n2_ := Aside0.mk (blk_below (g := gb393) (o := .cells #[.slice A0_0 l0_0.length c0_0, .bool a0_1] 24 (0, 0)) (by (with_reducible repeat (first | refine blk_drewN ?_ _ | refine blk_drew ?_ | refine blk_alloc ?_ _)); exact BK393.out) hb)
               have n3_ := Aside0.mk (blk_below (g := gb394) (o := .cells #[.int .i64 a2_0, .int .i64 a2_1, .int .i64 a2_2, .int .i64 a2_3, .int .i64 a2_4, .int .i64 a2_5] 26 (0, 0)) (by (with_reducible repeat (first | refine blk_drewN ?_ _ | refine blk_drew ?_ | refine blk_alloc ?_ _)); exact BK394.out) hb)
               have n4_ := Aside0.mk (blk_below (g := gb400) (o := .cells #[.slice Ao16 t396.length co16, .bool t399] 30 (0, 0)) (by (with_reducible repeat (first | refine blk_drewN ?_ _ | refine blk_drew ?_ | refine blk_alloc ?_ _)); exact BK400.out) hb)
               have n5_ := Aside0.mk (below_step (by repeat (first | (with_reducible first | exact HB.out | apply below_alloc | apply pw_below_drewN | apply below_drew1 | refine below_set ?_ GE393.out | refine below_set ?_ GE394.out | refine below_set ?_ GE400.out) | exact HB.out)) hb)
               clear HO_401000
               clear HO411
               clear BK393
               clear BK394
               clear BK400
               clear HB
               have HO_401000 := n0_
               have HO411 := n1_
               have BK393 := n2_
               have BK394 := n3_
               have BK400 := n4_
               have HB := n5_
               clear n0_ n1_ n2_ n3_ n4_ n5_
               (try clear hb)
               (try clear hb2)
               (try clear hk)
               (try clear hi)
               refine hK.out _ _ ⟨(blk_cell BK394.out 0).trans rfl, (blk_cell BK394.out 1).trans rfl, (blk_cell BK394.out 2).trans rfl, (blk_cell BK394.out 3).trans rfl, (blk_cell BK394.out 4).trans rfl, (blk_cell BK394.out 5).trans rfl, (blk_cell BK400.out 0).trans rfl, (blk_cell BK400.out 1).trans rfl, HS8_⟩ (fun hHeld => ?_)
               clear hK K
               refine norm_ (a' := ?_) ?_ ?_
               rotate_left
               ·show Act.put _ (some 81) _ = _
                simp only [Act.put, List.setIfInBounds_toArray, List.set_cons_zero, List.set_cons_succ, i64_w, i32_w]
                rfl
               refine pure_ (i := 28) (N := some 82) (v := ?_) (a' := ?_) (laws_FnYear.Y 536870911) rfl rfl (any_of HT_.out (by kernel_rfl)) (fun _ _ _ h => h) (Or.inl ⟨by rfl, ?_⟩) ?_ ?_
               rotate_left
               ·intro w'
                go_simp
                with_reducible rfl
               rotate_left
               ·simp only [Act.put, List.setIfInBounds_toArray, List.set_cons_zero, List.set_cons_succ, i64_w, i32_w]
                rfl
               refine pure_ (i := 29) (N := some 83) (v := ?_) (a' := ?_) (laws_FnYear.Y 1073741823) rfl rfl (any_of HT_.out (by kernel_rfl)) (fun _ _ _ h => h) (Or.inl ⟨by rfl, ?_⟩) ?_ ?_
               rotate_left
               ·intro w'
                go_simp
                with_reducible rfl
               rotate_left
               ·simp only [Act.put, List.setIfInBounds_toArray, List.set_cons_zero, List.set_cons_succ, i64_w, i32_w]
                rfl
               refine pure_ (i := 30) (N := some 84) (v := ?_) (a' := ?_) (laws_FnYear.Y 2147483647) rfl rfl (any_of HT_.out (by kernel_rfl)) (fun _ _ _ h => h) (Or.inl ⟨by rfl, ?_⟩) ?_ ?_
               rotate_left
               ·intro w'
                go_simp
                with_reducible rfl
               rotate_left
               ·simp only [Act.put, List.setIfInBounds_toArray, List.set_cons_zero, List.set_cons_succ, i64_w, i32_w]
                rfl
               refine pure_ (i := 31) (N := some 6) (v := ?_) (a' := ?_) (laws_FnYear.Y 4294967295) rfl rfl (any_of HT_.out (by kernel_rfl)) (fun _ _ _ h => h) (Or.inl ⟨by rfl, ?_⟩) ?_ ?_
               rotate_left
               ·intro w'
                go_simp
                with_reducible rfl
               rotate_left
               ·simp only [Act.put, List.setIfInBounds_toArray, List.set_cons_zero, List.set_cons_succ, i64_w, i32_w]
                rfl
               refine done_ (done_of HT_.out (by kernel_rfl)) ?_
               try go_wp2
               go_ret
               exact ⟨by first | rfl | (simp [errW_none, errW_some] <;> rfl) | (simp [*, errW_none, errW_some] <;> rfl), by repeat (first | (with_reducible first | exact HB.out | apply below_alloc | apply pw_below_drewN | apply below_drew1 | refine below_set ?_ GE393.out | refine below_set ?_ GE394.out | refine below_set ?_ GE400.out) | exact HB.out)⟩
              ·rw [if_neg c68] at H
               have c68b0 : (a2_0 == a1) = false := beq_eq_false_iff_ne.mpr c68
               have c68b1 : (a2_0 != a1) = true := bne_iff_ne.mpr c68
               obtain rfl := Option.some.inj H
               try go_wp2
               have n0_ := Aside0.mk (Kd.S_drew HO_401000.out)
               have n1_ := Aside0.mk (blk_drew BK393.out)
               have n2_ := Aside0.mk (blk_drew BK394.out)
               have n3_ := Aside0.mk (blk_drew BK400.out)
               have n4_ := Aside0.mk (below_drew1 HB.out)
               clear HO_401000
               clear BK393
               clear BK394
               clear BK400
               clear HB
               have HO_401000 := n0_
               have BK393 := n1_
               have BK394 := n2_
               have BK400 := n3_
               have HB := n4_
               clear n0_ n1_ n2_ n3_ n4_
               refine start_ (n := 13) (S := fun w' => w'.cell? ⟨gb400, 0, none⟩ = some (.slice Ao16 t396.length co16) ∧ w'.cell? ⟨gb400, 1, none⟩ = some (.bool t399) ∧ w'.cell? ⟨gb394, 0, none⟩ = some (.int .i64 a2_0) ∧ w'.cell? ⟨gb394, 1, none⟩ = some (.int .i64 a2_1) ∧ w'.cell? ⟨gb394, 2, none⟩ = some (.int .i64 a2_2) ∧ w'.cell? ⟨gb394, 3, none⟩ = some (.int .i64 a2_3) ∧ w'.cell? ⟨gb394, 4, none⟩ = some (.int .i64 a2_4) ∧ w'.cell? ⟨gb394, 5, none⟩ = some (.int .i64 a2_5)) (ds := []) #[false, false, false, false, false, false, false, false, false, false, false, false, false] (by kernel_rfl) rfl rfl ⟨(blk_cell BK400.out 0).trans rfl, (blk_cell BK400.out 1).trans rfl, (blk_cell BK394.out 0).trans rfl, (blk_cell BK394.out 1).trans rfl, (blk_cell BK394.out 2).trans rfl, (blk_cell BK394.out 3).trans rfl, (blk_cell BK394.out 4).trans rfl, (blk_cell BK394.out 5).trans rfl⟩ (fun hHeld => ?_); refine with_tabW laws_FnYear.tab6 laws_FnYear.bits6 (fun HT_ HW_ => ?_)
               generalize wc.drew = w83 at HO_401000 BK393 BK394 BK400 HB hHeld ⊢
               refine pure_ (i := 3) (N := some 37) (v := ?_) (a' := ?_) #[false, false, false, true, false, false, false, false, false, false, false, false, false] rfl rfl (any_of HT_.out (by kernel_rfl)) (fun _ _ _ h => h) (Or.inl ⟨by rfl, ?_⟩) ?_ ?_
               rotate_left
               ·intro w'
                go_simp
                with_reducible rfl
               rotate_left
               ·simp only [Act.put, List.setIfInBounds_toArray, List.set_cons_zero, List.set_cons_succ, i64_w, i32_w]
                rfl
               refine take_ (i := 0) (N := some 34) (v := ?_) (a' := ?_) #[true, false, false, true, false, false, false, false, false, false, false, false, false] rfl rfl (take_ofW HT_.out HW_.out (by kernel_rfl)) (fun _ _ _ h => h) (Or.inl ⟨by rfl, ?_⟩) hHeld ?_ ?_
               rotate_left
               ·rintro w' ⟨s0, s1, s2, s3, s4, s5, s6, s7⟩
                go_simp
                with_reducible rfl
               rotate_left
               ·simp only [Act.put, List.setIfInBounds_toArray, List.set_cons_zero, List.set_cons_succ, i64_w, i32_w]
                rfl
               refine take_ (i := 6) (N := some 40) (v := ?_) (a' := ?_) #[true, false, false, true, false, false, true, false, false, false, false, false, false] rfl rfl (take_ofW HT_.out HW_.out (by kernel_rfl)) (fun _ _ _ h => h) (Or.inl ⟨by rfl, ?_⟩) hHeld ?_ ?_
               rotate_left
               ·rintro w' ⟨s0, s1, s2, s3, s4, s5, s6, s7⟩
                go_simp
                with_reducible rfl
               rotate_left
               ·simp only [Act.put, List.setIfInBounds_toArray, List.set_cons_zero, List.set_cons_succ, i64_w, i32_w]
                rfl
               refine one_ (i := 1) (N := some 35) #[true, true, false, true, false, false, true, false, false, false, false, false, false] rfl rfl (one_of HT_.out (by kernel_rfl)) (by decide) (fun K hK => ?_)
               refine goes_ Tryz.func15 (by kernel_rfl) rfl #[.agg #[.slice Ao16 t396.length co16, .bool t399]] (by rfl) rfl rfl (by (try simp only [List.map_toArray, List.map_cons, List.map_nil]); first | done | rfl | (simp only [List.length_drop, List.length_take]; rfl)) ?_
               with_reducible refine (spec_Text.calls kj6 _ _ t396 t399 t402 _ ?side1 ?side2 A52.out).mono ?_
               (case side1 => repeat (first | exact (Kd.S_reads' HO_401000.out).2.2 | (with_reducible refine Kd.C_alloc ?_ _) | (with_reducible refine Kd.C_drewN ?_ _) | (with_reducible refine Kd.C_drew ?_)))
               (case side2 => exact (Kd.S_reads' HO_401000.out).2.1)
               rintro e w84 ⟨rfl, hb⟩
               refine ⟨_, rfl, ?_⟩
               have n0_ := Aside0.mk (Kd.S_below (by (with_reducible repeat (first | apply Kd.S_alloc | apply Kd.S_drewN | apply Kd.S_drew)); exact HO_401000.out) hb)
               have n1_ := Aside0.mk (blk_below (g := gb393) (o := .cells #[.slice A0_0 l0_0.length c0_0, .bool a0_1] 24 (0, 0)) (by (with_reducible repeat (first | refine blk_drewN ?_ _ | refine blk_drew ?_ | refine blk_alloc ?_ _)); exact BK393.out) hb)
               have n2_ := Aside0.mk (blk_below (g := gb394) (o := .cells #[.int .i64 a2_0, .int .i64 a2_1, .int .i64 a2_2, .int .i64 a2_3, .int .i64 a2_4, .int .i64 a2_5] 26 (0, 0)) (by (with_reducible repeat (first | refine blk_drewN ?_ _ | refine blk_drew ?_ | refine blk_alloc ?_ _)); exact BK394.out) hb)
               have n3_ := Aside0.mk (blk_below (g := gb400) (o := .cells #[.slice Ao16 t396.length co16, .bool t399] 30 (0, 0)) (by (with_reducible repeat (first | refine blk_drewN ?_ _ | refine blk_drew ?_ | refine blk_alloc ?_ _)); exact BK400.out) hb)
               have n4_ := Aside0.mk (below_step (by repeat (first | (with_reducible first | exact HB.out | apply below_alloc | apply pw_below_drewN | apply below_drew1 | refine below_set ?_ GE393.out | refine below_set ?_ GE394.out | refine below_set ?_ GE400.out) | exact HB.out)) hb)
               clear HO_401000
               clear BK393
               clear BK394
               clear BK400
               clear HB
               have HO_401000 := n0_
               have BK393 := n1_
               have BK394 := n2_
               have BK400 := n3_
               have HB := n4_
               clear n0_ n1_ n2_ n3_ n4_
               (try clear hb)
               (try clear hb2)
               (try clear hk)
               (try clear hi)
               refine hK.out _ _ ⟨(blk_cell BK400.out 0).trans rfl, (blk_cell BK400.out 1).trans rfl, (blk_cell BK394.out 0).trans rfl, (blk_cell BK394.out 1).trans rfl, (blk_cell BK394.out 2).trans rfl, (blk_cell BK394.out 3).trans rfl, (blk_cell BK394.out 4).trans rfl, (blk_cell BK394.out 5).trans rfl⟩ (fun hHeld => ?_)
               clear hK K
               refine norm_ (a' := ?_) ?_ ?_
               rotate_left
               ·show Act.put _ (some 35) _ = _
                simp only [Act.put, List.setIfInBounds_toArray, List.set_cons_zero, List.set_cons_succ, i64_w, i32_w]
                rfl
               refine pure_ (i := 2) (N := some 36) (v := ?_) (a' := ?_) #[true, true, true, true, false, false, true, false, false, false, false, false, false] rfl rfl (any_of HT_.out (by kernel_rfl)) (fun _ _ _ h => h) (Or.inl ⟨by rfl, ?_⟩) ?_ ?_
               rotate_left
               ·intro w'
                go_simp
                with_reducible rfl
               rotate_left
               ·simp only [Act.put, List.setIfInBounds_toArray, List.set_cons_zero, List.set_cons_succ, i64_w, i32_w]
                rfl
               refine one_ (i := 4) (N := some 38) #[true, true, true, true, true, false, true, false, false, false, false, false, false] rfl rfl (one_of HT_.out (by kernel_rfl)) (by decide) (fun K hK => ?_)
               refine goes_ Tryz.func24 (by kernel_rfl) rfl #[.int .i64 a1] (by rfl) rfl rfl (by (try simp only [List.map_toArray, List.map_cons, List.map_nil]); first | done | rfl | (simp only [List.length_drop, List.length_take]; rfl)) ?_
               with_reducible refine (spec_Decimal.calls kj6 a1 t403 _ A54.out).mono ?_
               rintro e w' ⟨rfl, ⟨nd, rfl⟩⟩
               refine ⟨_, rfl, ?_⟩
               refine hK.out _ _ ⟨(blk_cell BK400.out 0).trans rfl, (blk_cell BK400.out 1).trans rfl, (blk_cell BK394.out 0).trans rfl, (blk_cell BK394.out 1).trans rfl, (blk_cell BK394.out 2).trans rfl, (blk_cell BK394.out 3).trans rfl, (blk_cell BK394.out 4).trans rfl, (blk_cell BK394.out 5).trans rfl⟩ (fun hHeld => ?_)
               clear hK K
               refine norm_ (a' := ?_) ?_ ?_
               rotate_left
               ·show Act.put _ (some 38) _ = _
                simp only [Act.put, List.setIfInBounds_toArray, List.set_cons_zero, List.set_cons_succ, i64_w, i32_w]
                rfl
               refine pure_ (i := 5) (N := some 39) (v := ?_) (a' := ?_) #[true, true, true, true, true, true, true, false, false, false, false, false, false] rfl rfl (any_of HT_.out (by kernel_rfl)) (fun _ _ _ h => h) (Or.inl ⟨by rfl, ?_⟩) ?_ ?_
               rotate_left
               ·intro w'
                go_simp
                with_reducible rfl
               rotate_left
               ·simp only [Act.put, List.setIfInBounds_toArray, List.set_cons_zero, List.set_cons_succ, i64_w, i32_w]
                rfl
               refine one_ (i := 7) (N := some 41) #[true, true, true, true, true, true, true, true, false, false, false, false, false] rfl rfl (one_of HT_.out (by kernel_rfl)) (by decide) (fun K hK => ?_)
               refine goes_ Tryz.func14 (by kernel_rfl) rfl #[.string ((t402 ++ (⟨#[32]⟩ : ByteArray)) ++ t403), .agg #[.int .i64 a2_0, .int .i64 a2_1, .int .i64 a2_2, .int .i64 a2_3, .int .i64 a2_4, .int .i64 a2_5]] (by rfl) rfl rfl (by (try simp only [List.map_toArray, List.map_cons, List.map_nil]); first | done | rfl | (simp only [List.length_drop, List.length_take]; rfl)) ?_
               with_reducible refine (impl_Due.calls ((t402 ++ (⟨#[32]⟩ : ByteArray)) ++ t403) a2_0 a2_1 a2_2 a2_3 a2_4 a2_5 t404 true _ A56.out).mono ?_
               rintro e w85 ⟨rfl, hb⟩
               refine ⟨_, rfl, ?_⟩
               have n0_ := Aside0.mk (Kd.S_below (by (with_reducible repeat (first | apply Kd.S_alloc | apply Kd.S_drewN | apply Kd.S_drew)); exact HO_401000.out) hb)
               have n1_ := Aside0.mk (blk_below (g := gb393) (o := .cells #[.slice A0_0 l0_0.length c0_0, .bool a0_1] 24 (0, 0)) (by (with_reducible repeat (first | refine blk_drewN ?_ _ | refine blk_drew ?_ | refine blk_alloc ?_ _)); exact BK393.out) hb)
               have n2_ := Aside0.mk (blk_below (g := gb394) (o := .cells #[.int .i64 a2_0, .int .i64 a2_1, .int .i64 a2_2, .int .i64 a2_3, .int .i64 a2_4, .int .i64 a2_5] 26 (0, 0)) (by (with_reducible repeat (first | refine blk_drewN ?_ _ | refine blk_drew ?_ | refine blk_alloc ?_ _)); exact BK394.out) hb)
               have n3_ := Aside0.mk (blk_below (g := gb400) (o := .cells #[.slice Ao16 t396.length co16, .bool t399] 30 (0, 0)) (by (with_reducible repeat (first | refine blk_drewN ?_ _ | refine blk_drew ?_ | refine blk_alloc ?_ _)); exact BK400.out) hb)
               have n4_ := Aside0.mk (below_step (by repeat (first | (with_reducible first | exact HB.out | apply below_alloc | apply pw_below_drewN | apply below_drew1 | refine below_set ?_ GE393.out | refine below_set ?_ GE394.out | refine below_set ?_ GE400.out) | exact HB.out)) hb)
               clear HO_401000
               clear BK393
               clear BK394
               clear BK400
               clear HB
               have HO_401000 := n0_
               have BK393 := n1_
               have BK394 := n2_
               have BK400 := n3_
               have HB := n4_
               clear n0_ n1_ n2_ n3_ n4_
               (try clear hb)
               (try clear hb2)
               (try clear hk)
               (try clear hi)
               refine hK.out _ _ ⟨(blk_cell BK400.out 0).trans rfl, (blk_cell BK400.out 1).trans rfl, (blk_cell BK394.out 0).trans rfl, (blk_cell BK394.out 1).trans rfl, (blk_cell BK394.out 2).trans rfl, (blk_cell BK394.out 3).trans rfl, (blk_cell BK394.out 4).trans rfl, (blk_cell BK394.out 5).trans rfl⟩ (fun hHeld => ?_)
               clear hK K
               refine norm_ (a' := ?_) ?_ ?_
               rotate_left
               ·show Act.put _ (some 41) _ = _
                simp only [Act.put, List.setIfInBounds_toArray, List.set_cons_zero, List.set_cons_succ, i64_w, i32_w]
                rfl
               refine pure_ (i := 8) (N := some 33) (v := ?_) (a' := ?_) #[true, true, true, true, true, true, true, true, true, false, false, false, false] rfl rfl (any_of HT_.out (by kernel_rfl)) (fun _ _ _ h => h) (Or.inl ⟨by rfl, ?_⟩) ?_ ?_
               rotate_left
               ·intro w'
                go_simp
                with_reducible rfl
               rotate_left
               ·simp only [Act.put, List.setIfInBounds_toArray, List.set_cons_zero, List.set_cons_succ, i64_w, i32_w]
                rfl
               refine pure_ (i := 9) (N := some 42) (v := ?_) (a' := ?_) #[true, true, true, true, true, true, true, true, true, true, false, false, false] rfl rfl (any_of HT_.out (by kernel_rfl)) (fun _ _ _ h => h) (Or.inl ⟨by rfl, ?_⟩) ?_ ?_
               rotate_left
               ·intro w'
                go_simp
                with_reducible rfl
               rotate_left
               ·simp only [Act.put, List.setIfInBounds_toArray, List.set_cons_zero, List.set_cons_succ, i64_w, i32_w]
                rfl
               refine pure_ (i := 10) (N := some 43) (v := ?_) (a' := ?_) #[true, true, true, true, true, true, true, true, true, true, true, false, false] rfl rfl (any_of HT_.out (by kernel_rfl)) (fun _ _ _ h => h) (Or.inl ⟨by rfl, ?_⟩) ?_ ?_
               rotate_left
               ·intro w'
                go_simp
                with_reducible rfl
               rotate_left
               ·simp only [Act.put, List.setIfInBounds_toArray, List.set_cons_zero, List.set_cons_succ, i64_w, i32_w]
                rfl
               refine pure_ (i := 11) (N := some 8) (v := ?_) (a' := ?_) #[true, true, true, true, true, true, true, true, true, true, true, true, false] rfl rfl (any_of HT_.out (by kernel_rfl)) (fun _ _ _ h => h) (Or.inl ⟨by rfl, ?_⟩) ?_ ?_
               rotate_left
               ·intro w'
                go_simp
                with_reducible rfl
               rotate_left
               ·simp only [Act.put, List.setIfInBounds_toArray, List.set_cons_zero, List.set_cons_succ, i64_w, i32_w]
                rfl
               refine pure_ (i := 12) (N := some 9) (v := ?_) (a' := ?_) #[true, true, true, true, true, true, true, true, true, true, true, true, true] rfl rfl (any_of HT_.out (by kernel_rfl)) (fun _ _ _ h => h) (Or.inl ⟨by rfl, ?_⟩) ?_ ?_
               rotate_left
               ·intro w'
                go_simp
                with_reducible rfl
               rotate_left
               ·simp only [Act.put, List.setIfInBounds_toArray, List.set_cons_zero, List.set_cons_succ, i64_w, i32_w]
                rfl
               refine done_ (done_of HT_.out (by kernel_rfl)) ?_
               have hnb86 := NB400_393.out
               have hnc86 := NB393_400.out
               have hnb87 := NB400_394.out
               have hnc87 := NB394_400.out
               have hcz88_0 : w85.cell? ⟨gb400, 0, none⟩ = some (.slice Ao16 t396.length co16) := (blk_cell BK400.out 0).trans rfl
               have hcz88_1 : w85.cell? ⟨gb400, 1, none⟩ = some (.bool t399) := (blk_cell BK400.out 1).trans rfl
               have hfz88_0 := blk_frozen BK400.out 0
               have hfz88_1 := blk_frozen BK400.out 1
               try go_wp2_with (first | ((with_reducible refine gate_callee (f := 15) rfl ?_); refine goesL_ (some 46) rfl rfl Tryz.func15 (by kernel_rfl) rfl #[.agg #[.slice Ao16 t396.length co16, .bool t399]] rfl (by (try simp only [List.map_toArray, List.map_cons, List.map_nil]); first | done | rfl | (simp only [List.length_drop, List.length_take]; rfl)) ?_; (with_reducible refine (spec_Text.calls kj6 _ _ t396 t399 t406 _ ?side1 ?side2 A57.out).mono ?_); (case side1 => repeat (first | exact (Kd.S_reads' HO_401000.out).2.2 | (with_reducible refine Kd.C_alloc ?_ _) | (with_reducible refine Kd.C_drewN ?_ _) | (with_reducible refine Kd.C_drew ?_))); (case side2 => exact (Kd.S_reads' HO_401000.out).2.1); rintro e w89 ⟨rfl, hb⟩; refine ⟨_, rfl, ?_⟩; have n0_ := Aside0.mk (Kd.S_below (by (with_reducible repeat (first | apply Kd.S_alloc | apply Kd.S_drewN | apply Kd.S_drew)); exact HO_401000.out) hb); have n1_ := Aside0.mk (blk_below (g := gb393) (o := .cells #[.slice A0_0 l0_0.length c0_0, .bool a0_1] 24 (0, 0)) (by (with_reducible repeat (first | refine blk_drewN ?_ _ | refine blk_drew ?_ | refine blk_alloc ?_ _)); exact BK393.out) hb); have n2_ := Aside0.mk (blk_below (g := gb394) (o := .cells #[.int .i64 a2_0, .int .i64 a2_1, .int .i64 a2_2, .int .i64 a2_3, .int .i64 a2_4, .int .i64 a2_5] 26 (0, 0)) (by (with_reducible repeat (first | refine blk_drewN ?_ _ | refine blk_drew ?_ | refine blk_alloc ?_ _)); exact BK394.out) hb); have n3_ := Aside0.mk (blk_below (g := gb400) (o := .cells #[.slice Ao16 t396.length co16, .bool t399] 30 (0, 0)) (by (with_reducible repeat (first | refine blk_drewN ?_ _ | refine blk_drew ?_ | refine blk_alloc ?_ _)); exact BK400.out) hb); have n4_ := Aside0.mk (below_step (by repeat (first | (with_reducible first | exact HB.out | apply below_alloc | apply pw_below_drewN | apply below_drew1 | refine below_set ?_ GE393.out | refine below_set ?_ GE394.out | refine below_set ?_ GE400.out) | exact HB.out)) hb); clear HO_401000; clear BK393; clear BK394; clear BK400; clear HB; have HO_401000 := n0_; have BK393 := n1_; have BK394 := n2_; have BK400 := n3_; have HB := n4_; clear n0_ n1_ n2_ n3_ n4_; (try clear hb); (try clear hb2); (try clear hk); (try clear hi)) | ((with_reducible refine gate_callee (f := 24) rfl ?_); refine goesL_ (some 49) rfl rfl Tryz.func24 (by kernel_rfl) rfl #[.int .i64 a1] rfl (by (try simp only [List.map_toArray, List.map_cons, List.map_nil]); first | done | rfl | (simp only [List.length_drop, List.length_take]; rfl)) ?_; (with_reducible refine (spec_Decimal.calls kj6 a1 t407 _ A59.out).mono ?_); rintro e w' ⟨rfl, ⟨nd, rfl⟩⟩; refine ⟨_, rfl, ?_⟩) | ((with_reducible refine gate_callee (f := 26) rfl ?_); refine goesL_ (some 51) rfl rfl Tryz.func26 (by kernel_rfl) rfl #[.string ((t406 ++ (⟨#[32]⟩ : ByteArray)) ++ t407)] rfl (by (try simp only [List.map_toArray, List.map_cons, List.map_nil]); first | done | rfl | (simp only [List.length_drop, List.length_take]; rfl)) ?_; (with_reducible refine (impl_Parts.calls kj6 ((t406 ++ (⟨#[32]⟩ : ByteArray)) ++ t407) t408 true _ A61.out).mono ?_); rintro e w90 ⟨v410, rfl, ho0, hb⟩; refine ⟨_, rfl, ?_⟩; have n0_ := Aside0.mk (Kd.S_below (by (with_reducible repeat (first | apply Kd.S_alloc | apply Kd.S_drewN | apply Kd.S_drew)); exact HO_401000.out) hb); have n1_ := Aside0.mk (Kd.R_lower ho0 (below_size (by repeat (first | (with_reducible first | exact HB.out | apply below_alloc | apply pw_below_drewN | apply below_drew1 | refine below_set ?_ GE393.out | refine below_set ?_ GE394.out | refine below_set ?_ GE400.out) | exact HB.out)))); have n2_ := Aside0.mk (blk_below (g := gb393) (o := .cells #[.slice A0_0 l0_0.length c0_0, .bool a0_1] 24 (0, 0)) (by (with_reducible repeat (first | refine blk_drewN ?_ _ | refine blk_drew ?_ | refine blk_alloc ?_ _)); exact BK393.out) hb); have n3_ := Aside0.mk (blk_below (g := gb394) (o := .cells #[.int .i64 a2_0, .int .i64 a2_1, .int .i64 a2_2, .int .i64 a2_3, .int .i64 a2_4, .int .i64 a2_5] 26 (0, 0)) (by (with_reducible repeat (first | refine blk_drewN ?_ _ | refine blk_drew ?_ | refine blk_alloc ?_ _)); exact BK394.out) hb); have n4_ := Aside0.mk (blk_below (g := gb400) (o := .cells #[.slice Ao16 t396.length co16, .bool t399] 30 (0, 0)) (by (with_reducible repeat (first | refine blk_drewN ?_ _ | refine blk_drew ?_ | refine blk_alloc ?_ _)); exact BK400.out) hb); have n5_ := Aside0.mk (below_step (by repeat (first | (with_reducible first | exact HB.out | apply below_alloc | apply pw_below_drewN | apply below_drew1 | refine below_set ?_ GE393.out | refine below_set ?_ GE394.out | refine below_set ?_ GE400.out) | exact HB.out)) hb); clear HO_401000; clear BK393; clear BK394; clear BK400; clear HB; have HO_401000 := n0_; have HO411 := n1_; have BK393 := n2_; have BK394 := n3_; have BK400 := n4_; have HB := n5_; clear n0_ n1_ n2_ n3_ n4_ n5_; (try clear hb); (try clear hb2); (try clear hk); (try clear hi); (try clear ho0)))
               have n0_ := Aside0.mk (Kd.S_drew HO_401000.out)
               have n1_ := Aside0.mk (Kd.R_drew HO411.out)
               have n2_ := Aside0.mk (blk_drew BK393.out)
               have n3_ := Aside0.mk (blk_drew BK394.out)
               have n4_ := Aside0.mk (blk_drew BK400.out)
               have n5_ := Aside0.mk (below_drew1 HB.out)
               clear HO_401000
               clear HO411
               clear BK393
               clear BK394
               clear BK400
               clear HB
               have HO_401000 := n0_
               have HO411 := n1_
               have BK393 := n2_
               have BK394 := n3_
               have BK400 := n4_
               have HB := n5_
               clear n0_ n1_ n2_ n3_ n4_ n5_
               obtain ⟨Ao92, co92, eo92⟩ := Kd.R_slice HO411.out
               (first | subst eo92 | (injection eo92 with f1_ f2_ f3_; have f4_ := f1_.symm; have f5_ := f3_.symm; clear f1_ f2_ f3_; subst f4_; subst f5_))
               have p412 : 0 ≤ (6 : Int) := (by omega)
               have q412 : 6 < (t408.length : Int) := of_decide_eq_true (by first | (with_reducible assumption) | assumption)
               obtain ⟨ad412, e412, hx412_0⟩ := Kd.at_string (Kd.R_reads' HO411.out).2.2 6 p412 q412
               cases e412
               (try simp only [show (6 : Int).toNat = 6 from rfl, Nat.reduceMul, Nat.reduceEqDiff, Go.Addr.add, ↓reduceIte] at hx412_0)
               have qi412 : (6 < t408.length) = True := eq_true (by omega)
               (try rw [show ((6 : Int)).toNat = 6 from rfl] at hx412_0)
               replace p412 := eq_true p412
               replace q412 := eq_true q412
               refine start_ (n := 32) (S := fun w' => w'.cell? ⟨gb394, 0, none⟩ = some (.int .i64 a2_0) ∧ w'.cell? ⟨gb394, 1, none⟩ = some (.int .i64 a2_1) ∧ w'.cell? ⟨gb394, 2, none⟩ = some (.int .i64 a2_2) ∧ w'.cell? ⟨gb394, 3, none⟩ = some (.int .i64 a2_3) ∧ w'.cell? ⟨gb394, 4, none⟩ = some (.int .i64 a2_4) ∧ w'.cell? ⟨gb394, 5, none⟩ = some (.int .i64 a2_5) ∧ w'.cell? ⟨ad412.block, ad412.off + 6, none⟩ = some (.string (rdOf ByteArray.empty t408 6))) (ds := []) (laws_FnYear.Y 0) (by kernel_rfl) rfl rfl ⟨(blk_cell BK394.out 0).trans rfl, (blk_cell BK394.out 1).trans rfl, (blk_cell BK394.out 2).trans rfl, (blk_cell BK394.out 3).trans rfl, (blk_cell BK394.out 4).trans rfl, (blk_cell BK394.out 5).trans rfl, hx412_0⟩ (fun hHeld => ?_); refine with_tabW laws_FnYear.tab8 laws_FnYear.bits8 (fun HT_ HW_ => ?_)
               generalize w90.drew = w91 at HO_401000 HO411 BK393 BK394 BK400 HB hx412_0 hHeld ⊢
               refine pure_ (i := 0) (N := some 54) (v := ?_) (a' := ?_) (laws_FnYear.Y 1) rfl rfl (any_of HT_.out (by kernel_rfl)) (fun _ _ _ h => h) (Or.inl ⟨by rfl, ?_⟩) ?_ ?_
               rotate_left
               ·intro w'
                go_simp
                with_reducible rfl
               rotate_left
               ·simp only [Act.put, List.setIfInBounds_toArray, List.set_cons_zero, List.set_cons_succ, i64_w, i32_w]
                rfl
               refine pure_ (i := 1) (N := some 55) (v := ?_) (a' := ?_) (laws_FnYear.Y 3) rfl rfl (any_of HT_.out (by kernel_rfl)) (fun _ _ _ h => h) (Or.inl ⟨by rfl, ?_⟩) ?_ ?_
               rotate_left
               ·intro w'
                go_simp
                with_reducible rfl
               rotate_left
               ·simp only [Act.put, List.setIfInBounds_toArray, List.set_cons_zero, List.set_cons_succ, i64_w, i32_w]
                rfl
               refine pure_ (i := 2) (N := some 56) (v := ?_) (a' := ?_) (laws_FnYear.Y 7) rfl rfl (any_of HT_.out (by kernel_rfl)) (fun _ _ _ h => h) (Or.inl ⟨by rfl, ?_⟩) ?_ ?_
               rotate_left
               ·intro w'
                go_simp
                with_reducible rfl
               rotate_left
               ·simp only [Act.put, List.setIfInBounds_toArray, List.set_cons_zero, List.set_cons_succ, i64_w, i32_w]
                rfl
               refine pure_ (i := 3) (N := some 57) (v := ?_) (a' := ?_) (laws_FnYear.Y 15) rfl rfl (any_of HT_.out (by kernel_rfl)) (fun _ _ _ h => h) (Or.inl ⟨by rfl, ?_⟩) ?_ ?_
               rotate_left
               ·intro w'
                go_simp
                with_reducible rfl
               rotate_left
               ·simp only [Act.put, List.setIfInBounds_toArray, List.set_cons_zero, List.set_cons_succ, i64_w, i32_w]
                rfl
               refine pure_ (i := 4) (N := some 58) (v := ?_) (a' := ?_) (laws_FnYear.Y 31) rfl rfl (any_of HT_.out (by kernel_rfl)) (fun _ _ _ h => h) (Or.inl ⟨by rfl, ?_⟩) ?_ ?_
               rotate_left
               ·intro w'
                go_simp
                with_reducible rfl
               rotate_left
               ·simp only [Act.put, List.setIfInBounds_toArray, List.set_cons_zero, List.set_cons_succ, i64_w, i32_w]
                rfl
               refine pure_ (i := 5) (N := some 59) (v := ?_) (a' := ?_) (laws_FnYear.Y 63) rfl rfl (any_of HT_.out (by kernel_rfl)) (fun _ _ _ h => h) (Or.inl ⟨by rfl, ?_⟩) ?_ ?_
               rotate_left
               ·intro w'
                go_simp
                with_reducible rfl
               rotate_left
               ·simp only [Act.put, List.setIfInBounds_toArray, List.set_cons_zero, List.set_cons_succ, i64_w, i32_w]
                rfl
               refine pure_ (i := 6) (N := some 60) (v := ?_) (a' := ?_) (laws_FnYear.Y 127) rfl rfl (any_of HT_.out (by kernel_rfl)) (fun _ _ _ h => h) (Or.inl ⟨by rfl, ?_⟩) ?_ ?_
               rotate_left
               ·intro w'
                go_simp
                with_reducible rfl
               rotate_left
               ·simp only [Act.put, List.setIfInBounds_toArray, List.set_cons_zero, List.set_cons_succ, i64_w, i32_w]
                rfl
               refine pure_ (i := 7) (N := some 61) (v := ?_) (a' := ?_) (laws_FnYear.Y 255) rfl rfl (any_of HT_.out (by kernel_rfl)) (fun _ _ _ h => h) (Or.inl ⟨by rfl, ?_⟩) ?_ ?_
               rotate_left
               ·intro w'
                go_simp
                with_reducible rfl
               rotate_left
               ·simp only [Act.put, List.setIfInBounds_toArray, List.set_cons_zero, List.set_cons_succ, i64_w, i32_w]
                rfl
               refine pure_ (i := 8) (N := some 62) (v := ?_) (a' := ?_) (laws_FnYear.Y 511) rfl rfl (any_of HT_.out (by kernel_rfl)) (fun _ _ _ h => h) (Or.inl ⟨by rfl, ?_⟩) ?_ ?_
               rotate_left
               ·intro w'
                go_simp
                with_reducible rfl
               rotate_left
               ·simp only [Act.put, List.setIfInBounds_toArray, List.set_cons_zero, List.set_cons_succ, i64_w, i32_w]
                rfl
               refine pure_ (i := 9) (N := some 63) (v := ?_) (a' := ?_) (laws_FnYear.Y 1023) rfl rfl (any_of HT_.out (by kernel_rfl)) (fun _ _ _ h => h) (Or.inl ⟨by rfl, ?_⟩) ?_ ?_
               rotate_left
               ·intro w'
                go_simp
                with_reducible rfl
               rotate_left
               ·simp only [Act.put, List.setIfInBounds_toArray, List.set_cons_zero, List.set_cons_succ, i64_w, i32_w]
                rfl
               refine pure_ (i := 10) (N := some 64) (v := ?_) (a' := ?_) (laws_FnYear.Y 2047) rfl rfl (any_of HT_.out (by kernel_rfl)) (fun _ _ _ h => h) (Or.inl ⟨by rfl, ?_⟩) ?_ ?_
               rotate_left
               ·intro w'
                go_simp
                with_reducible rfl
               rotate_left
               ·simp only [Act.put, List.setIfInBounds_toArray, List.set_cons_zero, List.set_cons_succ, i64_w, i32_w]
                rfl
               refine pure_ (i := 11) (N := some 65) (v := ?_) (a' := ?_) (laws_FnYear.Y 4095) rfl rfl (any_of HT_.out (by kernel_rfl)) (fun _ _ _ h => h) (Or.inl ⟨by rfl, ?_⟩) ?_ ?_
               rotate_left
               ·intro w'
                go_simp
                with_reducible rfl
               rotate_left
               ·simp only [Act.put, List.setIfInBounds_toArray, List.set_cons_zero, List.set_cons_succ, i64_w, i32_w]
                rfl
               refine pure_ (i := 13) (N := some 67) (v := ?_) (a' := ?_) (laws_FnYear.Y 12287) rfl rfl (any_of HT_.out (by kernel_rfl)) (fun _ _ _ h => h) (Or.inl ⟨by rfl, ?_⟩) ?_ ?_
               rotate_left
               ·intro w'
                go_simp
                with_reducible rfl
               rotate_left
               ·simp only [Act.put, List.setIfInBounds_toArray, List.set_cons_zero, List.set_cons_succ, i64_w, i32_w]
                rfl
               refine take_ (i := 12) (N := some 66) (v := ?_) (a' := ?_) (laws_FnYear.Y 16383) rfl rfl (take_ofW HT_.out HW_.out (by kernel_rfl)) (fun _ _ _ h => h) (Or.inl ⟨by rfl, ?_⟩) hHeld ?_ ?_
               rotate_left
               ·rintro w' ⟨s0, s1, s2, s3, s4, s5, s6⟩
                go_simp
                with_reducible rfl
               rotate_left
               ·simp only [Act.put, List.setIfInBounds_toArray, List.set_cons_zero, List.set_cons_succ, i64_w, i32_w]
                rfl
               refine one_ (i := 14) (N := some 68) (laws_FnYear.Y 32767) rfl rfl (one_of HT_.out (by kernel_rfl)) (by decide) (fun K hK => ?_)
               refine goes_ Tryz.func24 (by kernel_rfl) rfl #[.int .i64 a1] (by rfl) rfl rfl (by (try simp only [List.map_toArray, List.map_cons, List.map_nil]); first | done | rfl | (simp only [List.length_drop, List.length_take]; rfl)) ?_
               with_reducible refine (spec_Decimal.calls kj6 a1 t413 _ A66.out).mono ?_
               rintro e w' ⟨rfl, ⟨nd, rfl⟩⟩
               refine ⟨_, rfl, ?_⟩
               refine hK.out _ _ ⟨(blk_cell BK394.out 0).trans rfl, (blk_cell BK394.out 1).trans rfl, (blk_cell BK394.out 2).trans rfl, (blk_cell BK394.out 3).trans rfl, (blk_cell BK394.out 4).trans rfl, (blk_cell BK394.out 5).trans rfl, hHeld.2.2.2.2.2.2⟩ (fun hHeld => ?_)
               clear hK K
               refine norm_ (a' := ?_) ?_ ?_
               rotate_left
               ·show Act.put _ (some 68) _ = _
                simp only [Act.put, List.setIfInBounds_toArray, List.set_cons_zero, List.set_cons_succ, i64_w, i32_w]
                rfl
               refine pure_ (i := 15) (N := some 69) (v := ?_) (a' := ?_) (laws_FnYear.Y 65535) rfl rfl (any_of HT_.out (by kernel_rfl)) (fun _ _ _ h => h) (Or.inl ⟨by rfl, ?_⟩) ?_ ?_
               rotate_left
               ·intro w'
                go_simp
                with_reducible rfl
               rotate_left
               ·simp only [Act.put, List.setIfInBounds_toArray, List.set_cons_zero, List.set_cons_succ, i64_w, i32_w]
                rfl
               refine pure_ (i := 16) (N := some 70) (v := ?_) (a' := ?_) (laws_FnYear.Y 131071) rfl rfl (any_of HT_.out (by kernel_rfl)) (fun _ _ _ h => h) (Or.inl ⟨by rfl, ?_⟩) ?_ ?_
               rotate_left
               ·intro w'
                go_simp
                with_reducible rfl
               rotate_left
               ·simp only [Act.put, List.setIfInBounds_toArray, List.set_cons_zero, List.set_cons_succ, i64_w, i32_w]
                rfl
               refine pure_ (i := 17) (N := some 71) (v := ?_) (a' := ?_) (laws_FnYear.Y 262143) rfl rfl (any_of HT_.out (by kernel_rfl)) (fun _ _ _ h => h) (Or.inl ⟨by rfl, ?_⟩) ?_ ?_
               rotate_left
               ·intro w'
                go_simp
                with_reducible rfl
               rotate_left
               ·simp only [Act.put, List.setIfInBounds_toArray, List.set_cons_zero, List.set_cons_succ, i64_w, i32_w]
                rfl
               refine pure_ (i := 18) (N := some 72) (v := ?_) (a' := ?_) (laws_FnYear.Y 524287) rfl rfl (any_of HT_.out (by kernel_rfl)) (fun _ _ _ h => h) (Or.inl ⟨by rfl, ?_⟩) ?_ ?_
               rotate_left
               ·intro w'
                go_simp
                with_reducible rfl
               rotate_left
               ·simp only [Act.put, List.setIfInBounds_toArray, List.set_cons_zero, List.set_cons_succ, i64_w, i32_w]
                rfl
               refine pure_ (i := 19) (N := some 73) (v := ?_) (a' := ?_) (laws_FnYear.Y 1048575) rfl rfl (any_of HT_.out (by kernel_rfl)) (fun _ _ _ h => h) (Or.inl ⟨by rfl, ?_⟩) ?_ ?_
               rotate_left
               ·intro w'
                go_simp
                with_reducible rfl
               rotate_left
               ·simp only [Act.put, List.setIfInBounds_toArray, List.set_cons_zero, List.set_cons_succ, i64_w, i32_w]
                rfl
               refine pure_ (i := 21) (N := some 75) (v := ?_) (a' := ?_) (laws_FnYear.Y 3145727) rfl rfl (any_of HT_.out (by kernel_rfl)) (fun _ _ _ h => h) (Or.inl ⟨by rfl, ?_⟩) ?_ ?_
               rotate_left
               ·intro w'
                go_simp
                with_reducible rfl
               rotate_left
               ·simp only [Act.put, List.setIfInBounds_toArray, List.set_cons_zero, List.set_cons_succ, i64_w, i32_w]
                rfl
               refine take_ (i := 20) (N := some 74) (v := ?_) (a' := ?_) (laws_FnYear.Y 4194303) rfl rfl (take_ofW HT_.out HW_.out (by kernel_rfl)) (fun _ _ _ h => h) (Or.inl ⟨by rfl, ?_⟩) hHeld ?_ ?_
               rotate_left
               ·rintro w' ⟨s0, s1, s2, s3, s4, s5, s6⟩
                go_simp
                with_reducible rfl
               rotate_left
               ·simp only [Act.put, List.setIfInBounds_toArray, List.set_cons_zero, List.set_cons_succ, i64_w, i32_w]
                rfl
               refine pure_ (i := 22) (N := some 76) (v := ?_) (a' := ?_) (laws_FnYear.Y 8388607) rfl rfl (any_of HT_.out (by kernel_rfl)) (fun _ _ _ h => h) (Or.inl ⟨by rfl, ?_⟩) ?_ ?_
               rotate_left
               ·intro w'
                go_simp
                with_reducible rfl
               rotate_left
               ·simp only [Act.put, List.setIfInBounds_toArray, List.set_cons_zero, List.set_cons_succ, i64_w, i32_w]
                rfl
               refine pure_ (i := 23) (N := some 77) (v := ?_) (a' := ?_) (laws_FnYear.Y 16777215) rfl rfl (any_of HT_.out (by kernel_rfl)) (fun _ _ _ h => h) (Or.inl ⟨by rfl, ?_⟩) ?_ ?_
               rotate_left
               ·intro w'
                go_simp
                with_reducible rfl
               rotate_left
               ·simp only [Act.put, List.setIfInBounds_toArray, List.set_cons_zero, List.set_cons_succ, i64_w, i32_w]
                rfl
               refine pure_ (i := 24) (N := some 78) (v := undef) (a' := ?_) (laws_FnYear.Y 33554431) rfl rfl (any_of HT_.out (by kernel_rfl)) (fun _ _ _ h => h) (Or.inr ⟨by rfl, rfl⟩) ?_ ?_
               rotate_left
               ·simp only [Act.put, List.setIfInBounds_toArray, List.set_cons_zero, List.set_cons_succ, i64_w, i32_w]
                rfl
               refine pure_ (i := 25) (N := some 79) (v := undef) (a' := ?_) (laws_FnYear.Y 67108863) rfl rfl (any_of HT_.out (by kernel_rfl)) (fun _ _ _ h => h) (Or.inr ⟨by rfl, rfl⟩) ?_ ?_
               rotate_left
               ·simp only [Act.put, List.setIfInBounds_toArray, List.set_cons_zero, List.set_cons_succ, i64_w, i32_w]
                rfl
               refine pure_ (i := 26) (N := some 80) (v := undef) (a' := ?_) (laws_FnYear.Y 134217727) rfl rfl (any_of HT_.out (by kernel_rfl)) (fun _ _ _ h => h) (Or.inr ⟨by rfl, rfl⟩) ?_ ?_
               rotate_left
               ·simp only [Act.put, List.setIfInBounds_toArray, List.set_cons_zero, List.set_cons_succ, i64_w, i32_w]
                rfl
               refine pure_ (i := 27) (N := some 81) (v := undef) (a' := ?_) (laws_FnYear.Y 268435455) rfl rfl (any_of HT_.out (by kernel_rfl)) (fun _ _ _ h => h) (Or.inr ⟨by rfl, rfl⟩) ?_ ?_
               rotate_left
               ·simp only [Act.put, List.setIfInBounds_toArray, List.set_cons_zero, List.set_cons_succ, i64_w, i32_w]
                rfl
               refine pure_ (i := 28) (N := some 82) (v := ?_) (a' := ?_) (laws_FnYear.Y 536870911) rfl rfl (any_of HT_.out (by kernel_rfl)) (fun _ _ _ h => h) (Or.inl ⟨by rfl, ?_⟩) ?_ ?_
               rotate_left
               ·intro w'
                go_simp
                with_reducible rfl
               rotate_left
               ·simp only [Act.put, List.setIfInBounds_toArray, List.set_cons_zero, List.set_cons_succ, i64_w, i32_w]
                rfl
               refine pure_ (i := 29) (N := some 83) (v := ?_) (a' := ?_) (laws_FnYear.Y 1073741823) rfl rfl (any_of HT_.out (by kernel_rfl)) (fun _ _ _ h => h) (Or.inl ⟨by rfl, ?_⟩) ?_ ?_
               rotate_left
               ·intro w'
                go_simp
                with_reducible rfl
               rotate_left
               ·simp only [Act.put, List.setIfInBounds_toArray, List.set_cons_zero, List.set_cons_succ, i64_w, i32_w]
                rfl
               refine pure_ (i := 30) (N := some 84) (v := ?_) (a' := ?_) (laws_FnYear.Y 2147483647) rfl rfl (any_of HT_.out (by kernel_rfl)) (fun _ _ _ h => h) (Or.inl ⟨by rfl, ?_⟩) ?_ ?_
               rotate_left
               ·intro w'
                go_simp
                with_reducible rfl
               rotate_left
               ·simp only [Act.put, List.setIfInBounds_toArray, List.set_cons_zero, List.set_cons_succ, i64_w, i32_w]
                rfl
               refine pure_ (i := 31) (N := some 6) (v := ?_) (a' := ?_) (laws_FnYear.Y 4294967295) rfl rfl (any_of HT_.out (by kernel_rfl)) (fun _ _ _ h => h) (Or.inl ⟨by rfl, ?_⟩) ?_ ?_
               rotate_left
               ·intro w'
                go_simp
                with_reducible rfl
               rotate_left
               ·simp only [Act.put, List.setIfInBounds_toArray, List.set_cons_zero, List.set_cons_succ, i64_w, i32_w]
                rfl
               refine done_ (done_of HT_.out (by kernel_rfl)) ?_
               try go_wp2
               go_ret
               exact ⟨by first | rfl | (simp [errW_none, errW_some] <;> rfl) | (simp [*, errW_none, errW_some] <;> rfl), by repeat (first | (with_reducible first | exact HB.out | apply below_alloc | apply pw_below_drewN | apply below_drew1 | refine below_set ?_ GE393.out | refine below_set ?_ GE394.out | refine below_set ?_ GE400.out) | exact HB.out)⟩
             ·rw [if_neg c67] at H
              exact absurd (H.trans (congrArg some hr_.out)) (by simp)
            ·rw [if_neg c65] at H
             exact absurd H (by simp)
           ·rw [if_neg c64] at H
            exact absurd (H.trans (congrArg some hr_.out)) (by simp)
          ·replace c63 := Bool.eq_false_iff.mpr c63
           subst c63
           have H1 : (some false) = some r := by rw [if_neg (show ¬ (false = true) by decide)] at H; exact H
           exact absurd (H1.trans (congrArg some hr_.out)) (by simp)
         ·replace c62 := Bool.eq_false_iff.mpr c62
          subst c62
          have H1 : (some false) = some r := by rw [if_neg (show ¬ (false = true) by decide)] at H; exact H
          exact absurd (H1.trans (congrArg some hr_.out)) (by simp)
        ·rw [if_neg c60] at H
         exact absurd H (by simp)
       ·rw [if_neg c58] at H
        exact absurd H (by simp)
      ·rw [if_neg c55] at H
       exact absurd H (by simp)
     ·rw [if_neg c53] at H
      exact absurd H (by simp)
 ·replace c5 := Bool.eq_false_iff.mpr c5
  subst c5
  have H1 : (some true) = some r := by rw [if_neg (show ¬ (false = true) by decide)] at H; exact H
  clear H
  have H := H1
  clear H1
  obtain rfl := Option.some.inj H
  go_enter Tryz.func9, Tryz.ntmps9
  go_wp2_with (first | ((with_reducible refine gate_dst (N := 3) rfl ?_); (try (refine gate_guard (by rfl) ?_; dsimp only)); refine box_event ?hg (N := 3) ?hd (cs := #[.slice A0_0 l0_0.length c0_0, .bool a0_1]) (t := 24) ?hr ?_; (case hd => rfl); (case hg => rfl); (case hr => first | (go_simp; done) | (go_simp; rfl)); intro gb393 hg w131 hbox hb; have n0_ := Aside0.mk (below_step (by repeat (first | (with_reducible first | exact HB.out | apply below_alloc | apply pw_below_drewN | apply below_drew1) | exact HB.out)) hb); have n1_ := Aside0.mk (hbox); have n2_ := Aside0.mk ((by rw [hg]; exact (below_size (by repeat (first | (with_reducible first | exact HB.out | apply below_alloc | apply pw_below_drewN | apply below_drew1) | exact HB.out))) : w.heap.size ≤ gb393)); have n3_ := Aside0.mk ((by rw [hg]; exact (below_size (by repeat (first | (with_reducible first | exact HB.out | apply below_alloc | apply pw_below_drewN | apply below_drew1) | exact HB.out))) : w.heap.size ≤ gb393)); clear HB; have HB := n0_; have BK393 := n1_; have GW393 := n2_; have GE393 := n3_; clear n0_ n1_ n2_ n3_; clear hb hbox hg) | ((with_reducible refine gate_dst (N := 5) rfl ?_); (try (refine gate_guard (by rfl) ?_; dsimp only)); refine box_event ?hg (N := 5) ?hd (cs := #[.int .i64 a2_0, .int .i64 a2_1, .int .i64 a2_2, .int .i64 a2_3, .int .i64 a2_4, .int .i64 a2_5]) (t := 26) ?hr ?_; (case hd => rfl); (case hg => rfl); (case hr => first | (go_simp; done) | (go_simp; rfl)); intro gb394 hg w132 hbox hb; have n0_ := Aside0.mk (blk_below (g := gb393) (o := .cells #[.slice A0_0 l0_0.length c0_0, .bool a0_1] 24 (0, 0)) (by (with_reducible repeat (first | refine blk_drewN ?_ _ | refine blk_drew ?_ | refine blk_alloc ?_ _)); exact BK393.out) hb); have n1_ := Aside0.mk (below_step (by repeat (first | (with_reducible first | exact HB.out | apply below_alloc | apply pw_below_drewN | apply below_drew1 | refine below_set ?_ GE393.out) | exact HB.out)) hb); have n2_ := Aside0.mk (hbox); have n3_ := Aside0.mk ((by rw [hg]; exact (below_size (by repeat (first | (with_reducible first | exact HB.out | apply below_alloc | apply pw_below_drewN | apply below_drew1 | refine below_set ?_ GE393.out) | exact HB.out))) : w.heap.size ≤ gb394)); have n4_ := Aside0.mk ((by rw [hg]; exact (below_size (by repeat (first | (with_reducible first | exact HB.out | apply below_alloc | apply pw_below_drewN | apply below_drew1 | refine below_set ?_ GE393.out) | exact HB.out))) : w.heap.size ≤ gb394)); have n5_ := Aside0.mk ((by rw [hg]; exact Nat.ne_of_lt (blk_lt (g := gb393) (o := .cells #[.slice A0_0 l0_0.length c0_0, .bool a0_1] 24 (0, 0)) (by (with_reducible repeat (first | refine blk_drewN ?_ _ | refine blk_drew ?_ | refine blk_alloc ?_ _)); exact BK393.out)) : gb393 ≠ gb394)); have n6_ := Aside0.mk ((by rw [hg]; exact Nat.ne_of_gt (blk_lt (g := gb393) (o := .cells #[.slice A0_0 l0_0.length c0_0, .bool a0_1] 24 (0, 0)) (by (with_reducible repeat (first | refine blk_drewN ?_ _ | refine blk_drew ?_ | refine blk_alloc ?_ _)); exact BK393.out)) : gb394 ≠ gb393)); clear BK393; clear HB; have BK393 := n0_; have HB := n1_; have BK394 := n2_; have GW394 := n3_; have GE394 := n4_; have NB393_394 := n5_; have NB394_393 := n6_; clear n0_ n1_ n2_ n3_ n4_ n5_ n6_; clear hb hbox hg; have hnb133 := NB393_394.out; have hnc133 := NB394_393.out; have hcz134_0 : w132.cell? ⟨gb393, 0, none⟩ = some (.slice A0_0 l0_0.length c0_0) := (blk_cell BK393.out 0).trans rfl; have hcz134_1 : w132.cell? ⟨gb393, 1, none⟩ = some (.bool a0_1) := (blk_cell BK393.out 1).trans rfl; have hfz134_0 := blk_frozen BK393.out 0; have hfz134_1 := blk_frozen BK393.out 1) | ((with_reducible refine gate_callee (f := 11) rfl ?_); refine goesL_ (some 13) rfl rfl Tryz.func11 (by kernel_rfl) rfl #[.agg #[.slice A0_0 l0_0.length c0_0, .bool a0_1]] rfl (by (try simp only [List.map_toArray, List.map_cons, List.map_nil]); first | done | rfl | (simp only [List.length_drop, List.length_take]; rfl)) ?_; (with_reducible refine (laws_zzFits1.calls k _ _ l0_0 a0_1 false _ ?side1 ?side2 A4.out).mono ?_); (case side1 => repeat (first | exact (Kd.C_below HR0_0.out HB.out) | (with_reducible refine Kd.C_alloc ?_ _) | (with_reducible refine Kd.C_drewN ?_ _) | (with_reducible refine Kd.C_drew ?_))); (case side2 => exact HC0_0.out); rintro e w135 ⟨rfl, hb⟩; refine ⟨_, rfl, ?_⟩; have n0_ := Aside0.mk (blk_below (g := gb393) (o := .cells #[.slice A0_0 l0_0.length c0_0, .bool a0_1] 24 (0, 0)) (by (with_reducible repeat (first | refine blk_drewN ?_ _ | refine blk_drew ?_ | refine blk_alloc ?_ _)); exact BK393.out) hb); have n1_ := Aside0.mk (blk_below (g := gb394) (o := .cells #[.int .i64 a2_0, .int .i64 a2_1, .int .i64 a2_2, .int .i64 a2_3, .int .i64 a2_4, .int .i64 a2_5] 26 (0, 0)) (by (with_reducible repeat (first | refine blk_drewN ?_ _ | refine blk_drew ?_ | refine blk_alloc ?_ _)); exact BK394.out) hb); have n2_ := Aside0.mk (below_step (by repeat (first | (with_reducible first | exact HB.out | apply below_alloc | apply pw_below_drewN | apply below_drew1 | refine below_set ?_ GE393.out | refine below_set ?_ GE394.out) | exact HB.out)) hb); clear BK393; clear BK394; clear HB; have BK393 := n0_; have BK394 := n1_; have HB := n2_; clear n0_ n1_ n2_; (try clear hb); (try clear hb2); (try clear hk); (try clear hi)))
  go_ret
  exact ⟨by first | rfl | (simp [errW_none, errW_some] <;> rfl) | (simp [*, errW_none, errW_some] <;> rfl), by repeat (first | (with_reducible first | exact HB.out | apply below_alloc | apply pw_below_drewN | apply below_drew1 | refine below_set ?_ GE393.out | refine below_set ?_ GE394.out) | exact HB.out)⟩
end Go.Proofs.YtemgofomhjabpaaGreatDoor.Core
namespace Go.Proofs.YtemgofomhjabpaaGreatDoor.Core
open Go.RowKit Go.Proofs.YtemgofomhjabpaaGreatDoorW.PrintWords Go.Proofs.YtemgofomhjabpaaGreatDoorW.PrintLast Go.Proofs.YtemgofomhjabpaaGreatDoorW.PrintMore
attribute [local go_sem] max2_int min2_int max_two min_two max_three min_three max_four min_four   -- for this text's walks alone
set_option linter.unusedVariables false
set_option linter.unusedSimpArgs false
end Go.Proofs.YtemgofomhjabpaaGreatDoor.Core
namespace Go.Proofs.YtemgofomhjabpaaGreatDoor.Core
open Go.RowKit Go.Proofs.YtemgofomhjabpaaGreatDoorW.PrintWords Go.Proofs.YtemgofomhjabpaaGreatDoorW.PrintLast Go.Proofs.YtemgofomhjabpaaGreatDoorW.PrintMore
attribute [local go_sem] max2_int min2_int max_two min_two max_three min_three max_four min_four   -- for this text's walks alone
set_option linter.unusedVariables false
set_option linter.unusedSimpArgs false
def gotime_dateToAbsDays.f (a0 : Int) (a1 : Int) (a2 : Int) : Option (Int) := if ((a1) % 4294967296) < 3 then (some (IntKind.u64.wrap ((IntKind.u64.wrap (Int.tdiv (IntKind.u64.wrap (146097 * (IntKind.u64.wrap (Int.tdiv (IntKind.u64.wrap ((IntKind.u64.wrap ((IntKind.u64.wrap (a0)) - 1)) + 292277022400)) 100)))) 4)) + (IntKind.u64.wrap (wrap64 ((wrap64 ((((((1461 * ((Int.tmod (IntKind.u64.wrap ((IntKind.u64.wrap ((IntKind.u64.wrap (a0)) - 1)) + 292277022400)) 100) % 4294967296)) % 4294967296) / 4) + (((((979 * ((((a1) % 4294967296) + (12 * 1)) % 4294967296)) % 4294967296) - 2919) % 4294967296) / 32)) % 4294967296) + a2)) - 1)))))) else (some (IntKind.u64.wrap ((IntKind.u64.wrap (Int.tdiv (IntKind.u64.wrap (146097 * (IntKind.u64.wrap (Int.tdiv (IntKind.u64.wrap ((IntKind.u64.wrap ((IntKind.u64.wrap (a0)) - 0)) + 292277022400)) 100)))) 4)) + (IntKind.u64.wrap (wrap64 ((wrap64 ((((((1461 * ((Int.tmod (IntKind.u64.wrap ((IntKind.u64.wrap ((IntKind.u64.wrap (a0)) - 0)) + 292277022400)) 100) % 4294967296)) % 4294967296) / 4) + (((((979 * (((a1) % 4294967296) + (12 * 0))) % 4294967296) - 2919) % 4294967296) / 32)) % 4294967296) + a2)) - 1))))))
set_option maxHeartbeats 8000000 in
set_option maxRecDepth 100000 in
theorem gotime_dateToAbsDays.calls (a0 : Int) (a1 : Int) (a2 : Int) (r : Int) (w : World) (h : gotime_dateToAbsDays.f a0 a1 a2 = some r) :
  Calls Tryz.prog 52 #[.int .i64 a0, .int .i64 a1, .int .i64 a2] w fun e w' => e = .returned (.int .u64 r) ∧ Drawn0 w w' := by
 have H : (if ((a1) % 4294967296) < 3 then (some (IntKind.u64.wrap ((IntKind.u64.wrap (Int.tdiv (IntKind.u64.wrap (146097 * (IntKind.u64.wrap (Int.tdiv (IntKind.u64.wrap ((IntKind.u64.wrap ((IntKind.u64.wrap (a0)) - 1)) + 292277022400)) 100)))) 4)) + (IntKind.u64.wrap (wrap64 ((wrap64 ((((((1461 * ((Int.tmod (IntKind.u64.wrap ((IntKind.u64.wrap ((IntKind.u64.wrap (a0)) - 1)) + 292277022400)) 100) % 4294967296)) % 4294967296) / 4) + (((((979 * ((((a1) % 4294967296) + (12 * 1)) % 4294967296)) % 4294967296) - 2919) % 4294967296) / 32)) % 4294967296) + a2)) - 1)))))) else (some (IntKind.u64.wrap ((IntKind.u64.wrap (Int.tdiv (IntKind.u64.wrap (146097 * (IntKind.u64.wrap (Int.tdiv (IntKind.u64.wrap ((IntKind.u64.wrap ((IntKind.u64.wrap (a0)) - 0)) + 292277022400)) 100)))) 4)) + (IntKind.u64.wrap (wrap64 ((wrap64 ((((((1461 * ((Int.tmod (IntKind.u64.wrap ((IntKind.u64.wrap ((IntKind.u64.wrap (a0)) - 0)) + 292277022400)) 100) % 4294967296)) % 4294967296) / 4) + (((((979 * (((a1) % 4294967296) + (12 * 0))) % 4294967296) - 2919) % 4294967296) / 32)) % 4294967296) + a2)) - 1))))))) = some r := h
 clear h
 by_cases c4 : ((a1) % 4294967296) < 3
 ·rw [if_pos c4] at H
  have c4b0 : decide (((a1) % 4294967296) < 3) = true := decide_eq_true c4
  clear c4
  obtain rfl := Option.some.inj H
  go_enter Tryz.func52, Tryz.ntmps52
  go_wp2
  go_ret
  exact ⟨by first | rfl | (simp; done) | (simp [*]; done), by repeat (first | exact Drawn0.refl _ | apply Drawn0.step)⟩
 ·rw [if_neg c4] at H
  have c4b0 : decide (((a1) % 4294967296) < 3) = false := decide_eq_false c4
  clear c4
  obtain rfl := Option.some.inj H
  go_enter Tryz.func52, Tryz.ntmps52
  go_wp2
  go_ret
  exact ⟨by first | rfl | (simp; done) | (simp [*]; done), by repeat (first | exact Drawn0.refl _ | apply Drawn0.step)⟩
end Go.Proofs.YtemgofomhjabpaaGreatDoor.Core
namespace Go.Proofs.YtemgofomhjabpaaGreatDoor.Core
open Go.RowKit Go.Proofs.YtemgofomhjabpaaGreatDoorW.PrintWords Go.Proofs.YtemgofomhjabpaaGreatDoorW.PrintLast Go.Proofs.YtemgofomhjabpaaGreatDoorW.PrintMore
attribute [local go_sem] max2_int min2_int max_two min_two max_three min_three max_four min_four   -- for this text's walks alone
set_option linter.unusedVariables false
set_option linter.unusedSimpArgs false
def bits_Mul32.f (a0 : Int) (a1 : Int) : Option (Int × Int) := some (((IntKind.u64.wrap ((IntKind.u64.wrap (a0)) * (IntKind.u64.wrap (a1)))) / 4294967296) % 4294967296, (IntKind.u64.wrap ((IntKind.u64.wrap (a0)) * (IntKind.u64.wrap (a1)))) % 4294967296)
set_option maxHeartbeats 8000000 in
set_option maxRecDepth 100000 in
theorem bits_Mul32.calls (a0 : Int) (a1 : Int) (r1 : Int) (r2 : Int) (w : World) (h : bits_Mul32.f a0 a1 = some (r1, r2)) :
  Calls Tryz.prog 145 #[.int .u32 a0, .int .u32 a1] w fun e w' => e = .returned (.tuple #[.int .u32 r1, .int .u32 r2]) ∧ Drawn0 w w' := by
 have H : (some (((IntKind.u64.wrap ((IntKind.u64.wrap (a0)) * (IntKind.u64.wrap (a1)))) / 4294967296) % 4294967296, (IntKind.u64.wrap ((IntKind.u64.wrap (a0)) * (IntKind.u64.wrap (a1)))) % 4294967296)) = some (r1, r2) := h
 clear h
 simp only [Option.some.injEq, Prod.mk.injEq] at H
 obtain ⟨rfl, rfl⟩ := H
 go_enter Tryz.func145, Tryz.ntmps145
 go_wp2
 go_ret2
 exact ⟨by first | rfl | (simp; done) | (simp [*]; done), by repeat (first | exact Drawn0.refl _ | apply Drawn0.step)⟩
end Go.Proofs.YtemgofomhjabpaaGreatDoor.Core
namespace Go.Proofs.YtemgofomhjabpaaGreatDoor.Core
open Go.RowKit Go.Proofs.YtemgofomhjabpaaGreatDoorW.PrintWords Go.Proofs.YtemgofomhjabpaaGreatDoorW.PrintLast Go.Proofs.YtemgofomhjabpaaGreatDoorW.PrintMore
attribute [local go_sem] max2_int min2_int max_two min_two max_three min_three max_four min_four   -- for this text's walks alone
set_option linter.unusedVariables false
set_option linter.unusedSimpArgs false
def gotime_absDays_split.f (a0 : Int) : Option (Int × Int × Int) := (bits_Mul32.f 2939745 (Go.bits .or .u32 ((Int.tmod (IntKind.u64.wrap ((IntKind.u64.wrap (4 * a0)) + 3)) 146097) % 4294967296) 3)).bind fun bt564 => (some (IntKind.u64.wrap (Int.tdiv (IntKind.u64.wrap ((IntKind.u64.wrap (4 * a0)) + 3)) 146097), wrap64 (bt564.1), ((Int.tdiv bt564.2 2939745) % 4294967296) / 4))
set_option maxHeartbeats 8000000 in
set_option maxRecDepth 100000 in
theorem gotime_absDays_split.calls (a0 : Int) (r1 : Int) (r2 : Int) (r3 : Int) (w : World) (h : gotime_absDays_split.f a0 = some (r1, r2, r3)) :
  Calls Tryz.prog 126 #[.int .u64 a0] w fun e w' => e = .returned (.tuple #[.int .u64 r1, .int .i64 r2, .int .i64 r3]) ∧ Drawn0 w w' := by
 have H : ((bits_Mul32.f 2939745 (Go.bits .or .u32 ((Int.tmod (IntKind.u64.wrap ((IntKind.u64.wrap (4 * a0)) + 3)) 146097) % 4294967296) 3)).bind fun bt564 => (some (IntKind.u64.wrap (Int.tdiv (IntKind.u64.wrap ((IntKind.u64.wrap (4 * a0)) + 3)) 146097), wrap64 (bt564.1), ((Int.tdiv bt564.2 2939745) % 4294967296) / 4))) = some (r1, r2, r3) := h
 clear h
 replace H := Option.bind_eq_some_iff.mp H
 obtain ⟨⟨t564, t565⟩, A20, H⟩ := H
 replace H : (some (IntKind.u64.wrap (Int.tdiv (IntKind.u64.wrap ((IntKind.u64.wrap (4 * a0)) + 3)) 146097), wrap64 (t564), ((Int.tdiv t565 2939745) % 4294967296) / 4)) = some (r1, r2, r3) := H
 have A2 := Aside0.mk A20
 clear A20
 simp only [Option.some.injEq, Prod.mk.injEq] at H
 obtain ⟨rfl, rfl, rfl⟩ := H
 go_enter Tryz.func126, Tryz.ntmps126
 go_wp2_with (first | ((with_reducible refine gate_callee (f := 145) rfl ?_); refine goesL_ (some 20) rfl rfl Tryz.func145 (by kernel_rfl) rfl #[.int .u32 2939745, .int .u32 (Go.bits .or .u32 ((Int.tmod (IntKind.u64.wrap ((IntKind.u64.wrap (4 * a0)) + 3)) 146097) % 4294967296) 3)] rfl (by (try simp only [List.map_toArray, List.map_cons, List.map_nil]); first | done | rfl | (simp only [List.length_drop, List.length_take]; rfl)) ?_; (with_reducible refine (bits_Mul32.calls 2939745 (Go.bits .or .u32 ((Int.tmod (IntKind.u64.wrap ((IntKind.u64.wrap (4 * a0)) + 3)) 146097) % 4294967296) 3) t564 t565 _ A2.out).mono ?_); rintro e w' ⟨rfl, ⟨nd, rfl⟩⟩; refine ⟨_, rfl, ?_⟩))
 go_ret3
 exact ⟨by first | rfl | (simp; done) | (simp [*]; done), by repeat (first | exact Drawn0.refl _ | apply Drawn0.step)⟩
end Go.Proofs.YtemgofomhjabpaaGreatDoor.Core
namespace Go.Proofs.YtemgofomhjabpaaGreatDoor.Core
open Go.RowKit Go.Proofs.YtemgofomhjabpaaGreatDoorW.PrintWords Go.Proofs.YtemgofomhjabpaaGreatDoorW.PrintLast Go.Proofs.YtemgofomhjabpaaGreatDoorW.PrintMore
attribute [local go_sem] max2_int min2_int max_two min_two max_three min_three max_four min_four   -- for this text's walks alone
set_option linter.unusedVariables false
set_option linter.unusedSimpArgs false
def gotime_absYday_split.f (a0 : Int) : Option (Int × Int) := some (((((2141 * ((a0) % 4294967296)) % 4294967296) + 197913) % 4294967296) / 65536, 1 + ((Int.tdiv (Go.bits .and .u32 ((((2141 * ((a0) % 4294967296)) % 4294967296) + 197913) % 4294967296) 65535) 2141) % 4294967296))
set_option maxHeartbeats 8000000 in
set_option maxRecDepth 100000 in
theorem gotime_absYday_split.calls (a0 : Int) (r1 : Int) (r2 : Int) (w : World) (h : gotime_absYday_split.f a0 = some (r1, r2)) :
  Calls Tryz.prog 127 #[.int .i64 a0] w fun e w' => e = .returned (.tuple #[.int .i64 r1, .int .i64 r2]) ∧ Drawn0 w w' := by
 have H : (some (((((2141 * ((a0) % 4294967296)) % 4294967296) + 197913) % 4294967296) / 65536, 1 + ((Int.tdiv (Go.bits .and .u32 ((((2141 * ((a0) % 4294967296)) % 4294967296) + 197913) % 4294967296) 65535) 2141) % 4294967296))) = some (r1, r2) := h
 clear h
 simp only [Option.some.injEq, Prod.mk.injEq] at H
 obtain ⟨rfl, rfl⟩ := H
 go_enter Tryz.func127, Tryz.ntmps127
 go_wp2
 go_ret2
 exact ⟨by first | rfl | (simp; done) | (simp [*]; done), by repeat (first | exact Drawn0.refl _ | apply Drawn0.step)⟩
end Go.Proofs.YtemgofomhjabpaaGreatDoor.Core
namespace Go.Proofs.YtemgofomhjabpaaGreatDoor.Core
open Go.RowKit Go.Proofs.YtemgofomhjabpaaGreatDoorW.PrintWords Go.Proofs.YtemgofomhjabpaaGreatDoorW.PrintLast Go.Proofs.YtemgofomhjabpaaGreatDoorW.PrintMore
attribute [local go_sem] max2_int min2_int max_two min_two max_three min_three max_four min_four   -- for this text's walks alone
set_option linter.unusedVariables false
set_option linter.unusedSimpArgs false
def gotime_absYday_janFeb.f (a0 : Int) : Option (Int) := if a0 ≥ 306 then (some 1) else (some 0)
set_option maxHeartbeats 8000000 in
set_option maxRecDepth 100000 in
theorem gotime_absYday_janFeb.calls (a0 : Int) (r : Int) (w : World) (h : gotime_absYday_janFeb.f a0 = some r) :
  Calls Tryz.prog 137 #[.int .i64 a0] w fun e w' => e = .returned (.int .i64 r) ∧ Drawn0 w w' := by
 have H : (if a0 ≥ 306 then (some 1) else (some 0)) = some r := h
 clear h
 by_cases c2 : a0 ≥ 306
 ·rw [if_pos c2] at H
  have c2b0 : decide (306 ≤ a0) = true := decide_eq_true c2
  clear c2
  obtain rfl := Option.some.inj H
  go_enter Tryz.func137, Tryz.ntmps137
  go_wp2
  go_ret
  exact ⟨by first | rfl | (simp; done) | (simp [*]; done), by repeat (first | exact Drawn0.refl _ | apply Drawn0.step)⟩
 ·rw [if_neg c2] at H
  have c2b0 : decide (306 ≤ a0) = false := decide_eq_false c2
  clear c2
  obtain rfl := Option.some.inj H
  go_enter Tryz.func137, Tryz.ntmps137
  go_wp2
  go_ret
  exact ⟨by first | rfl | (simp; done) | (simp [*]; done), by repeat (first | exact Drawn0.refl _ | apply Drawn0.step)⟩
end Go.Proofs.YtemgofomhjabpaaGreatDoor.Core
namespace Go.Proofs.YtemgofomhjabpaaGreatDoor.Core
open Go.RowKit Go.Proofs.YtemgofomhjabpaaGreatDoorW.PrintWords Go.Proofs.YtemgofomhjabpaaGreatDoorW.PrintLast Go.Proofs.YtemgofomhjabpaaGreatDoorW.PrintMore
attribute [local go_sem] max2_int min2_int max_two min_two max_three min_three max_four min_four   -- for this text's walks alone
set_option linter.unusedVariables false
set_option linter.unusedSimpArgs false
def gotime_absCentury_year.f (a0 : Int) (a1 : Int) (a2 : Int) : Option (Int) := some (wrap64 ((wrap64 ((wrap64 (IntKind.u64.wrap ((IntKind.u64.wrap (a0 * 100)) - 292277022400))) + a1)) + a2))
set_option maxHeartbeats 8000000 in
set_option maxRecDepth 100000 in
theorem gotime_absCentury_year.calls (a0 : Int) (a1 : Int) (a2 : Int) (r : Int) (w : World) (h : gotime_absCentury_year.f a0 a1 a2 = some r) :
  Calls Tryz.prog 138 #[.int .u64 a0, .int .i64 a1, .int .i64 a2] w fun e w' => e = .returned (.int .i64 r) ∧ Drawn0 w w' := by
 have H : (some (wrap64 ((wrap64 ((wrap64 (IntKind.u64.wrap ((IntKind.u64.wrap (a0 * 100)) - 292277022400))) + a1)) + a2))) = some r := h
 clear h
 obtain rfl := Option.some.inj H
 go_enter Tryz.func138, Tryz.ntmps138
 go_wp2
 go_ret
 exact ⟨by first | rfl | (simp; done) | (simp [*]; done), by repeat (first | exact Drawn0.refl _ | apply Drawn0.step)⟩
end Go.Proofs.YtemgofomhjabpaaGreatDoor.Core
namespace Go.Proofs.YtemgofomhjabpaaGreatDoor.Core
open Go.RowKit Go.Proofs.YtemgofomhjabpaaGreatDoorW.PrintWords Go.Proofs.YtemgofomhjabpaaGreatDoorW.PrintLast Go.Proofs.YtemgofomhjabpaaGreatDoorW.PrintMore
attribute [local go_sem] max2_int min2_int max_two min_two max_three min_three max_four min_four   -- for this text's walks alone
set_option linter.unusedVariables false
set_option linter.unusedSimpArgs false
def gotime_absMonth_month.f (a0 : Int) (a1 : Int) : Option (Int) := some (wrap64 (a0 - (wrap64 (a1 * 12))))
set_option maxHeartbeats 8000000 in
set_option maxRecDepth 100000 in
theorem gotime_absMonth_month.calls (a0 : Int) (a1 : Int) (r : Int) (w : World) (h : gotime_absMonth_month.f a0 a1 = some r) :
  Calls Tryz.prog 139 #[.int .i64 a0, .int .i64 a1] w fun e w' => e = .returned (.int .i64 r) ∧ Drawn0 w w' := by
 have H : (some (wrap64 (a0 - (wrap64 (a1 * 12))))) = some r := h
 clear h
 obtain rfl := Option.some.inj H
 go_enter Tryz.func139, Tryz.ntmps139
 go_wp2
 go_ret
 exact ⟨by first | rfl | (simp; done) | (simp [*]; done), by repeat (first | exact Drawn0.refl _ | apply Drawn0.step)⟩
end Go.Proofs.YtemgofomhjabpaaGreatDoor.Core
namespace Go.Proofs.YtemgofomhjabpaaGreatDoor.Core
open Go.RowKit Go.Proofs.YtemgofomhjabpaaGreatDoorW.PrintWords Go.Proofs.YtemgofomhjabpaaGreatDoorW.PrintLast Go.Proofs.YtemgofomhjabpaaGreatDoorW.PrintMore
attribute [local go_sem] max2_int min2_int max_two min_two max_three min_three max_four min_four   -- for this text's walks alone
set_option linter.unusedVariables false
set_option linter.unusedSimpArgs false
end Go.Proofs.YtemgofomhjabpaaGreatDoor.Core
namespace Go.Proofs.YtemgofomhjabpaaGreatDoor.Core
open Go.RowKit Go.Proofs.YtemgofomhjabpaaGreatDoorW.PrintWords Go.Proofs.YtemgofomhjabpaaGreatDoorW.PrintLast Go.Proofs.YtemgofomhjabpaaGreatDoorW.PrintMore
attribute [local go_sem] max2_int min2_int max_two min_two max_three min_three max_four min_four   -- for this text's walks alone
set_option linter.unusedVariables false
set_option linter.unusedSimpArgs false
def gotime_absDays_weekday.f (a0 : Int) : Option (Int) := some (wrap64 (Int.tmod (IntKind.u64.wrap (a0 + 3)) 7))
set_option maxHeartbeats 8000000 in
set_option maxRecDepth 100000 in
theorem gotime_absDays_weekday.calls (a0 : Int) (r : Int) (w : World) (h : gotime_absDays_weekday.f a0 = some r) :
  Calls Tryz.prog 146 #[.int .u64 a0] w fun e w' => e = .returned (.int .i64 r) ∧ Drawn0 w w' := by
 have H : (some (wrap64 (Int.tmod (IntKind.u64.wrap (a0 + 3)) 7))) = some r := h
 clear h
 obtain rfl := Option.some.inj H
 go_enter Tryz.func146, Tryz.ntmps146
 go_wp2
 go_ret
 exact ⟨by first | rfl | (simp; done) | (simp [*]; done), by repeat (first | exact Drawn0.refl _ | apply Drawn0.step)⟩
end Go.Proofs.YtemgofomhjabpaaGreatDoor.Core
namespace Go.Proofs.YtemgofomhjabpaaGreatDoor.Core
open Go.RowKit Go.Proofs.YtemgofomhjabpaaGreatDoorW.PrintWords Go.Proofs.YtemgofomhjabpaaGreatDoorW.PrintLast Go.Proofs.YtemgofomhjabpaaGreatDoorW.PrintMore
attribute [local go_sem] max2_int min2_int max_two min_two max_three min_three max_four min_four   -- for this text's walks alone
set_option linter.unusedVariables false
set_option linter.unusedSimpArgs false
def gotime_absSeconds_days.f (a0 : Int) : Option (Int) := some (IntKind.u64.wrap (Int.tdiv a0 86400))
set_option maxHeartbeats 8000000 in
set_option maxRecDepth 100000 in
theorem gotime_absSeconds_days.calls (a0 : Int) (r : Int) (w : World) (h : gotime_absSeconds_days.f a0 = some r) :
  Calls Tryz.prog 125 #[.int .u64 a0] w fun e w' => e = .returned (.int .u64 r) ∧ Drawn0 w w' := by
 have H : (some (IntKind.u64.wrap (Int.tdiv a0 86400))) = some r := h
 clear h
 obtain rfl := Option.some.inj H
 go_enter Tryz.func125, Tryz.ntmps125
 go_wp2
 go_ret
 exact ⟨by first | rfl | (simp; done) | (simp [*]; done), by repeat (first | exact Drawn0.refl _ | apply Drawn0.step)⟩
end Go.Proofs.YtemgofomhjabpaaGreatDoor.Core
namespace Go.Proofs.YtemgofomhjabpaaGreatDoor.Core
open Go.RowKit Go.Proofs.YtemgofomhjabpaaGreatDoorW.PrintWords
def B (l : List UInt8) : ByteArray := ⟨l.toArray⟩
theorem B_size (l : List UInt8) : (B l).size = l.length := by simp [B, ByteArray.size]
theorem B_data (l : List UInt8) : (B l).data.toList = l := by simp [B]
theorem B_list (l : List UInt8) : (B l).toList = l := by rw [Lib.toList_data, B_data]
theorem B_of (s : ByteArray) : B s.data.toList = s := by cases s; simp [B]
theorem B_inj {l m : List UInt8} (h : B l = B m) : l = m := by
 have := congrArg (fun s : ByteArray => s.data.toList) h
 simpa [B_data] using this
theorem B_ext_iff {s t : ByteArray} (h : s.data.toList = t.data.toList) : s = t := by rw [← B_of s, ← B_of t, h]
theorem B_app (l m : List UInt8) : B l ++ B m = B (l ++ m) := by
 apply B_ext_iff
 rw [B_data, ByteArray.data_append, Array.toList_append, B_data, B_data]
theorem B_cut (l : List UInt8) (i j : Nat) : (B l).extract i j = B ((l.drop i).take (j - i)) := by
 apply B_ext_iff
 rw [Lib.extract_data, B_data, B_data]
theorem B_bytesOf (l : List UInt8) : bytesOf (B l) = l.map fun b => (b.toNat : Int) := by rw [bytesOf, B_data]
theorem strOfNums_B (l : List UInt8) : strOfNums (l.map fun b => (b.toNat : Int)) = B l := by
 unfold strOfNums B
 congr 2
 rw [List.map_map]
 conv => rhs; rw [← List.map_id l]
 apply List.map_congr_left
 intro b _
 simp
theorem bt_B (l : List UInt8) (i : Int) (h0 : 0 ≤ i) (h : i < (l.length : Int)) : bt (B l) i = ((l[i.toNat]'(by omega)).toNat : Int) := by
 unfold bt
 rw [dif_pos (by rw [B_size]; omega)]
 have : (B l)[i.toNat]'(by rw [B_size]; omega) = l[i.toNat]'(by omega) := by simp [B, ByteArray.getElem_eq_getElem_data]
 rw [this]
theorem bt_B_at (l : List UInt8) (i : Nat) (h : i < l.length) : bt (B l) (i : Int) = ((l[i]).toNat : Int) := by
 rw [bt_B l _ (by omega) (by omega)]; simp
theorem wrap64_id {i : Int} (h0 : -9223372036854775808 ≤ i) (h1 : i ≤ 9223372036854775807) : wrap64 i = i := by unfold wrap64; omega
theorem wrap64_nat (i : Nat) (h : i < 9223372036854775807) : wrap64 ((i : Int) + 1) = ((i + 1 : Nat) : Int) := by rw [wrap64_id (by omega) (by omega)]; rfl
theorem rd_at (l : List Int) (i : Nat) : rd l (i : Int) = l.getD i 0 := by simp [rd]
theorem Ev.round {α : Type} {g f : Nat → Option α} {r : α} (k : Ev f r) (h : ∀ k, g (k + 1) = f k) : Ev g r := Ev.step h k
theorem Ev.eq {α : Type} {g : Nat → Option α} {r : α} (r' : α) (h : Ev g r') (e : r' = r) : Ev g r := e ▸ h
theorem Ev.done {α : Type} {g : Nat → Option α} {r : α} (h : ∀ k, g (k + 1) = some r) : Ev g r := Ev.step h (Ev.now r)
theorem Ev.const {α : Type} {o : Option α} {r : α} (h : o = some r) : Ev (fun _ => o) r := ⟨0, fun _ _ => h⟩
def decN (n : Nat) : List UInt8 := if _h : n < 10 then [UInt8.ofNat (48 + n)] else decN (n / 10) ++ [UInt8.ofNat (48 + n % 10)]
termination_by n
theorem decN_lt (n : Nat) (h : n < 10) : decN n = [UInt8.ofNat (48 + n)] := by rw [decN, dif_pos h]
theorem decN_ge (n : Nat) (h : ¬ n < 10) : decN n = decN (n / 10) ++ [UInt8.ofNat (48 + n % 10)] := by rw [decN, dif_neg h]
theorem decN_digit (n : Nat) : ∀ b ∈ decN n, 48 ≤ b.toNat ∧ b.toNat ≤ 57 := by
 induction n using decN.induct with
 | case1 n h =>
  rw [decN_lt n h]
  intro b hb
  rw [List.mem_singleton] at hb
  subst hb
  have : (48 + n) % 256 = 48 + n := by omega
  simp [this]
  omega
 | case2 n h ih =>
  rw [decN_ge n h]
  intro b hb
  rcases List.mem_append.1 hb with hb | hb
  ·exact ih b hb
  ·rw [List.mem_singleton] at hb
   subst hb
   have : (48 + n % 10) % 256 = 48 + n % 10 := by omega
   simp [this]
   omega
theorem decN_ne (n : Nat) : decN n ≠ [] := by
 by_cases h : n < 10
 ·rw [decN_lt n h]; simp
 ·rw [decN_ge n h]; simp
theorem decN_length (n : Nat) (m : Nat) (h : n < 10 ^ (m + 1)) : (decN n).length ≤ m + 1 := by
 induction m generalizing n with
 | zero => rw [decN_lt n (by simpa using h)]; simp
 | succ m ih =>
  by_cases h10 : n < 10
  ·rw [decN_lt n h10]; simp
  ·rw [decN_ge n h10]
   have := ih (n / 10) (by rw [Nat.div_lt_iff_lt_mul (by omega)]; rw [Nat.pow_succ] at h; exact h)
   simp
   omega
end Go.Proofs.YtemgofomhjabpaaGreatDoor.Core
namespace Go.Proofs.YtemgofomhjabpaaGreatDoor.Core
open Go.RowKit Go.Proofs.YtemgofomhjabpaaGreatDoorW.PrintWords
def leapI (y : Int) : Bool := decide (y % 4 = 0) && (decide (y % 100 ≠ 0) || decide (y % 400 = 0))
def daysI (y mo : Int) : Int := if mo = 2 ∧ leapI y = true then 29 else rd [0, 31, 28, 31, 30, 31, 30, 31, 31, 30, 31, 30, 31] mo
structure DateOk (y mo d : Int) : Prop where
 y0 : 1989 ≤ y
 y1 : y ≤ 2092
 m0 : 1 ≤ mo
 m1 : mo ≤ 12
 d0 : 1 ≤ d
 d1 : d ≤ daysI y mo
def jfI (mo : Int) : Int := (14 - mo) / 12
def aydI (mo d : Int) : Int := (979 * (mo + 12 * jfI mo) - 2919) / 32 + d - 1
def absD (y mo d : Int) : Int := 146097 * ((y - jfI mo + 292277022400) / 100) / 4 + 1461 * ((y - jfI mo + 292277022400) % 100) / 4 + aydI mo d
theorem u64_id {x : Int} (h0 : 0 ≤ x) (h1 : x < 18446744073709551616) : IntKind.u64.wrap x = x := by
 have : IntKind.u64.wrap x = x % 18446744073709551616 := rfl
 omega
theorem months {mo : Int} (h0 : 1 ≤ mo) (h1 : mo ≤ 12) : mo = 1 ∨ mo = 2 ∨ mo = 3 ∨ mo = 4 ∨ mo = 5 ∨ mo = 6 ∨ mo = 7 ∨ mo = 8 ∨ mo = 9 ∨ mo = 10 ∨ mo = 11 ∨ mo = 12 := by omega
theorem dateToAbs_eq (y mo d : Int) (y0 : 1989 ≤ y) (y1 : y ≤ 2092) (m0 : 1 ≤ mo) (m1 : mo ≤ 12) (d0 : 1 ≤ d) (d1 : d ≤ 32) : gotime_dateToAbsDays.f y mo d = some (absD y mo d) := by
 unfold gotime_dateToAbsDays.f absD aydI jfI
 rcases months m0 m1 with h | h | h | h | h | h | h | h | h | h | h | h <;> subst h <;>
  (first | rw [if_pos (by decide)] | rw [if_neg (by decide)]) <;>
  simp (disch := omega) only [u64_id, wrap64_id, Int.tdiv_eq_ediv_of_nonneg, Int.tmod_eq_emod_of_nonneg, Int.emod_eq_of_lt, Int.reduceSub, Int.reduceDiv, Int.reduceAdd, Int.reduceMul, Int.sub_zero] <;>
  exact congrArg some (by omega)
theorem or3 (n : Int) (h0 : 0 ≤ n) (h1 : n < 1000000) : Go.bits .or .u32 n 3 = n / 4 * 4 + 3 := by
 obtain ⟨m, rfl⟩ : ∃ m : Nat, n = m := ⟨n.toNat, by omega⟩
 have e := u32_or_nat m 3 (by omega) (by omega)
 rw [show ((3 : Nat) : Int) = 3 from rfl] at e
 rw [e]
 have e2 : m ||| 3 = m / 4 * 4 + 3 := by
  have h4 : 2 ^ 2 * (m / 4) + m % 4 = 2 ^ 2 * (m / 4) ||| m % 4 := Nat.two_pow_add_eq_or_of_lt (by omega) _
  have h5 : 2 ^ 2 * (m / 4) + 3 = 2 ^ 2 * (m / 4) ||| 3 := Nat.two_pow_add_eq_or_of_lt (by omega) _
  have hr : m % 4 ||| 3 = 3 := by
   have : m % 4 < 4 := Nat.mod_lt _ (by omega)
   rcases (by omega : m % 4 = 0 ∨ m % 4 = 1 ∨ m % 4 = 2 ∨ m % 4 = 3) with h | h | h | h <;> rw [h] <;> rfl
  have hm : m = 2 ^ 2 * (m / 4) + m % 4 := by omega
  calc m ||| 3 = (2 ^ 2 * (m / 4) ||| m % 4) ||| 3 := by rw [← h4, ← hm]
   _ = 2 ^ 2 * (m / 4) ||| (m % 4 ||| 3) := Nat.or_assoc _ _ _
   _ = m / 4 * 4 + 3 := by rw [hr, ← h5]; omega
 omega
theorem and16 (n : Int) (h0 : 0 ≤ n) (h1 : n < 4294967296) : Go.bits .and .u32 n 65535 = n % 65536 := by
 obtain ⟨m, rfl⟩ : ∃ m : Nat, n = m := ⟨n.toNat, by omega⟩
 have e := u32_and_nat m 65535 (by omega) (by omega)
 rw [show ((65535 : Nat) : Int) = 65535 from rfl] at e
 rw [e]
 have e2 : m &&& 65535 = m % 65536 := Nat.and_two_pow_sub_one_eq_mod m 16
 omega
theorem leap_spec (y : Int) : leapI y = true ↔ y % 4 = 0 ∧ (y % 100 ≠ 0 ∨ y % 400 = 0) := by
 unfold leapI
 simp
theorem daysI_cases (y mo : Int) (m0 : 1 ≤ mo) (m1 : mo ≤ 12) : daysI y mo ≤ 31 ∧ 28 ≤ daysI y mo ∧ (mo = 2 → daysI y mo = if leapI y = true then 29 else 28) ∧ (mo = 4 ∨ mo = 6 ∨ mo = 9 ∨ mo = 11 → daysI y mo = 30) ∧ (mo = 1 ∨ mo = 3 ∨ mo = 5 ∨ mo = 7 ∨ mo = 8 ∨ mo = 10 ∨ mo = 12 → daysI y mo = 31) := by
 unfold daysI
 rcases months m0 m1 with h | h | h | h | h | h | h | h | h | h | h | h <;> subst h <;> cases hl : leapI y <;> simp [rd]
theorem split_at (C cy ayd : Int) (hC : C = 2922770243 ∨ (C = 2922770244 ∧ cy ≤ 95)) (c0 : 0 ≤ cy) (c1 : cy ≤ 99) (a0 : 0 ≤ ayd) (a1 : ayd ≤ 365) (a2 : ayd = 365 → cy % 4 = 3) :
  gotime_absDays_split.f (146097 * C / 4 + 1461 * cy / 4 + ayd) = some (C, cy, ayd) := by
 unfold gotime_absDays_split.f bits_Mul32.f
 have e1 : IntKind.u64.wrap (IntKind.u64.wrap (4 * (146097 * C / 4 + 1461 * cy / 4 + ayd)) + 3) = 4 * (146097 * C / 4 + 1461 * cy / 4 + ayd) + 3 := by
  rw [u64_id (x := 4 * (146097 * C / 4 + 1461 * cy / 4 + ayd)) (by omega) (by omega), u64_id (by omega) (by omega)]
 rw [e1, Int.tdiv_eq_ediv_of_nonneg (by omega), Int.tmod_eq_emod_of_nonneg (by omega)]
 have e2 : (4 * (146097 * C / 4 + 1461 * cy / 4 + ayd) + 3) / 146097 = C := by rcases hC with h | ⟨h, h95⟩ <;> subst h <;> omega
 have e3 : (4 * (146097 * C / 4 + 1461 * cy / 4 + ayd) + 3) % 146097 / 4 * 4 + 3 = 1461 * cy - cy % 4 + 4 * ayd + 3 := by rcases hC with h | ⟨h, h95⟩ <;> subst h <;> omega
 have e4 : (4 * (146097 * C / 4 + 1461 * cy / 4 + ayd) + 3) % 146097 % 4294967296 = (4 * (146097 * C / 4 + 1461 * cy / 4 + ayd) + 3) % 146097 := by omega
 rw [e2, e4, or3 _ (by omega) (by omega), e3]
 have b1 : 0 ≤ 1461 * cy - cy % 4 + 4 * ayd + 3 := by omega
 have b2 : 1461 * cy - cy % 4 + 4 * ayd + 3 < 146200 := by omega
 rw [u64_id (x := 2939745) (by omega) (by omega), u64_id (x := 1461 * cy - cy % 4 + 4 * ayd + 3) b1 (by omega), u64_id (x := 2939745 * (1461 * cy - cy % 4 + 4 * ayd + 3)) (by omega) (by omega), u64_id (x := C) (by omega) (by omega)]
 simp only [Option.bind_some]
 obtain ⟨r, hr⟩ : ∃ r : Int, r = 4 * ayd + 3 - cy % 4 := ⟨_, rfl⟩
 have hr0 : 0 ≤ r := by omega
 have hr1 : r ≤ 1460 := by omega
 have e5 : 2939745 * (1461 * cy - cy % 4 + 4 * ayd + 3) = 4294967296 * cy + (149 * cy + 2939745 * r) := by subst hr; omega
 rw [e5]
 obtain ⟨X, hX⟩ : ∃ X : Int, X = 149 * cy + 2939745 * r := ⟨_, rfl⟩
 have hX0 : 0 ≤ X := by omega
 have hX1 : X < 4294967296 := by omega
 have e9 : X / 2939745 = r := by omega
 rw [← hX]
 clear e1 e2 e3 e4 e5 b1 b2 hX
 have e6 : (4294967296 * cy + X) / 4294967296 = cy := by omega
 have e7 : (4294967296 * cy + X) % 4294967296 = X := by omega
 rw [e6, e7, Int.emod_eq_of_lt (by omega) (by omega), wrap64_id (by omega) (by omega), Int.tdiv_eq_ediv_of_nonneg (by omega), e9]
 have e8 : r % 4294967296 / 4 = ayd := by omega
 rw [e8]
theorem jf_01 {mo : Int} (h0 : 1 ≤ mo) (h1 : mo ≤ 12) : 0 ≤ jfI mo ∧ jfI mo ≤ 1 := by unfold jfI; omega
theorem ayd_range {y mo d : Int} (h : DateOk y mo d) : 0 ≤ aydI mo d ∧ aydI mo d ≤ 365 ∧ (aydI mo d = 365 → (y - jfI mo + 292277022400) % 100 % 4 = 3) := by
 obtain ⟨y0, y1, m0, m1, d0, d1⟩ := h
 obtain ⟨q1, q2, q3, q4, q5⟩ := daysI_cases y mo m0 m1
 unfold aydI jfI
 rcases months m0 m1 with h | h | h | h | h | h | h | h | h | h | h | h
 ·have := q5 (by omega); subst h; refine ⟨by omega, by omega, by omega⟩
 ·have := q3 h
  subst h
  cases hl : leapI y with
  | true =>
   have hlp := (leap_spec y).1 hl
   rw [hl] at this
   simp at this
   refine ⟨by omega, by omega, by omega⟩
  | false =>
   rw [hl] at this
   simp at this
   refine ⟨by omega, by omega, by omega⟩
 ·have := q5 (by omega); subst h; refine ⟨by omega, by omega, by omega⟩
 ·have := q4 (by omega); subst h; refine ⟨by omega, by omega, by omega⟩
 ·have := q5 (by omega); subst h; refine ⟨by omega, by omega, by omega⟩
 ·have := q4 (by omega); subst h; refine ⟨by omega, by omega, by omega⟩
 ·have := q5 (by omega); subst h; refine ⟨by omega, by omega, by omega⟩
 ·have := q5 (by omega); subst h; refine ⟨by omega, by omega, by omega⟩
 ·have := q4 (by omega); subst h; refine ⟨by omega, by omega, by omega⟩
 ·have := q5 (by omega); subst h; refine ⟨by omega, by omega, by omega⟩
 ·have := q4 (by omega); subst h; refine ⟨by omega, by omega, by omega⟩
 ·have := q5 (by omega); subst h; refine ⟨by omega, by omega, by omega⟩
theorem split_date {y mo d : Int} (h : DateOk y mo d) : gotime_absDays_split.f (absD y mo d) = some ((y - jfI mo + 292277022400) / 100, (y - jfI mo + 292277022400) % 100, aydI mo d) := by
 obtain ⟨r1, r2, r3⟩ := ayd_range h
 have hj := jf_01 h.m0 h.m1
 have := h.y0
 have := h.y1
 exact split_at _ _ _ (by omega) (by omega) (by omega) r1 r2 r3
theorem aydSplit {y mo d : Int} (h : DateOk y mo d) : gotime_absYday_split.f (aydI mo d) = some (mo + 12 * jfI mo, d) ∧ gotime_absYday_janFeb.f (aydI mo d) = some (jfI mo) ∧ gotime_absMonth_month.f (mo + 12 * jfI mo) (jfI mo) = some mo := by
 obtain ⟨y0, y1, m0, m1, d0, d1⟩ := h
 obtain ⟨q1, q2, q3, q4, q5⟩ := daysI_cases y mo m0 m1
 have key : ∀ A a : Int, 0 ≤ A → A ≤ 366 → (2141 * A + 197913) / 65536 = a → 0 ≤ (2141 * A + 197913) % 65536 / 2141 → gotime_absYday_split.f A = some (a, 1 + (2141 * A + 197913) % 65536 / 2141) := by
  intro A a h0 h1 ha h2
  unfold gotime_absYday_split.f
  have e1 : ((2141 * (A % 4294967296)) % 4294967296 + 197913) % 4294967296 = 2141 * A + 197913 := by omega
  rw [e1, and16 _ (by omega) (by omega), Int.tdiv_eq_ediv_of_nonneg (by omega), ha]
  have e2 : (2141 * A + 197913) % 65536 / 2141 % 4294967296 = (2141 * A + 197913) % 65536 / 2141 := by omega
  rw [e2]
 have fin : ∀ (c : Int), aydI mo d = c + d - 1 → 0 ≤ c + d - 1 → c + d - 1 ≤ 366 → (2141 * (c + d - 1) + 197913) / 65536 = mo + 12 * jfI mo → (2141 * (c + d - 1) + 197913) % 65536 / 2141 = d - 1 →
   gotime_absYday_split.f (aydI mo d) = some (mo + 12 * jfI mo, d) := by
  intro c hc b0 b1 e1 e2
  rw [hc, key (c + d - 1) _ b0 b1 e1 (by omega), e2]
  congr 2
  omega
 have jf : ∀ (c : Int), aydI mo d = c + d - 1 → (c + d - 1 ≥ 306 ↔ jfI mo = 1) → (jfI mo = 0 ∨ jfI mo = 1) → gotime_absYday_janFeb.f (aydI mo d) = some (jfI mo) := by
  intro c hc hi h01
  rw [hc]
  unfold gotime_absYday_janFeb.f
  by_cases hg : c + d - 1 ≥ 306
  ·rw [if_pos hg, hi.1 hg]
  ·rw [if_neg hg]
   rcases h01 with h | h
   ·rw [h]
   ·exact absurd (hi.2 h) hg
 have mon : gotime_absMonth_month.f (mo + 12 * jfI mo) (jfI mo) = some mo := by
  have hj := jf_01 m0 m1
  unfold gotime_absMonth_month.f
  rw [wrap64_id (i := jfI mo * 12) (by omega) (by omega), wrap64_id (by omega) (by omega)]
  congr 1
  omega
 have all : ∀ (m : Int), mo = m → ∀ (c j n : Int), jfI m = j → (979 * (m + 12 * j) - 2919) / 32 = c → daysI y mo ≤ n → (0 ≤ c) → (j = 0 ∧ c + n ≤ 306 ∨ j = 1 ∧ 306 ≤ c ∧ c + n ≤ 367) →
   (∀ d : Int, 1 ≤ d → d ≤ n → (2141 * (c + d - 1) + 197913) / 65536 = m + 12 * j ∧ (2141 * (c + d - 1) + 197913) % 65536 / 2141 = d - 1) →
   gotime_absYday_split.f (aydI mo d) = some (mo + 12 * jfI mo, d) ∧ gotime_absYday_janFeb.f (aydI mo d) = some (jfI mo) ∧ gotime_absMonth_month.f (mo + 12 * jfI mo) (jfI mo) = some mo := by
  intro m hm c j n hj hc hn c0 hjn hd
  subst hm
  have ha : aydI mo d = c + d - 1 := by unfold aydI; rw [hj, hc]
  obtain ⟨g1, g2⟩ := hd d d0 (by omega)
  refine ⟨fin c ha (by omega) (by omega) (by rw [hj]; exact g1) g2, jf c ha (by rw [hj]; omega) (by rw [hj]; omega), mon⟩
 rcases months m0 m1 with h | h | h | h | h | h | h | h | h | h | h | h
 ·exact all 1 h 306 1 31 rfl rfl (by have := q5 (by omega); omega) (by omega) (by omega) (fun d _ _ => by omega)
 ·exact all 2 h 337 1 29 rfl rfl (by have := q3 h; split at this <;> omega) (by omega) (by omega) (fun d _ _ => by omega)
 ·exact all 3 h 0 0 31 rfl rfl (by have := q5 (by omega); omega) (by omega) (by omega) (fun d _ _ => by omega)
 ·exact all 4 h 31 0 30 rfl rfl (by have := q4 (by omega); omega) (by omega) (by omega) (fun d _ _ => by omega)
 ·exact all 5 h 61 0 31 rfl rfl (by have := q5 (by omega); omega) (by omega) (by omega) (fun d _ _ => by omega)
 ·exact all 6 h 92 0 30 rfl rfl (by have := q4 (by omega); omega) (by omega) (by omega) (fun d _ _ => by omega)
 ·exact all 7 h 122 0 31 rfl rfl (by have := q5 (by omega); omega) (by omega) (by omega) (fun d _ _ => by omega)
 ·exact all 8 h 153 0 31 rfl rfl (by have := q5 (by omega); omega) (by omega) (by omega) (fun d _ _ => by omega)
 ·exact all 9 h 184 0 30 rfl rfl (by have := q4 (by omega); omega) (by omega) (by omega) (fun d _ _ => by omega)
 ·exact all 10 h 214 0 31 rfl rfl (by have := q5 (by omega); omega) (by omega) (by omega) (fun d _ _ => by omega)
 ·exact all 11 h 245 0 30 rfl rfl (by have := q4 (by omega); omega) (by omega) (by omega) (fun d _ _ => by omega)
 ·exact all 12 h 275 0 31 rfl rfl (by have := q5 (by omega); omega) (by omega) (by omega) (fun d _ _ => by omega)
theorem centuryYear {y mo d : Int} (h : DateOk y mo d) : gotime_absCentury_year.f ((y - jfI mo + 292277022400) / 100) ((y - jfI mo + 292277022400) % 100) (jfI mo) = some y := by
 have hj := jf_01 h.m0 h.m1
 have := h.y0
 have := h.y1
 unfold gotime_absCentury_year.f
 have e : IntKind.u64.wrap (IntKind.u64.wrap ((y - jfI mo + 292277022400) / 100 * 100) - 292277022400) = (IntKind.u64.wrap ((y - jfI mo + 292277022400) / 100 * 100) - 292277022400) % 18446744073709551616 := rfl
 rw [e, u64_id (by omega) (by omega)]
 have e2 : ((y - jfI mo + 292277022400) / 100 * 100 - 292277022400) % 18446744073709551616 = (y - jfI mo + 292277022400) / 100 * 100 - 292277022400 := by omega
 rw [e2, wrap64_id (i := (y - jfI mo + 292277022400) / 100 * 100 - 292277022400) (by omega) (by omega), wrap64_id (i := _ + (y - jfI mo + 292277022400) % 100) (by omega) (by omega), wrap64_id (by omega) (by omega)]
 congr 1
 omega
end Go.Proofs.YtemgofomhjabpaaGreatDoor.Core
namespace Go.Proofs.YtemgofomhjabpaaGreatDoor.Core
open Go.RowKit
theorem no_mono : (bits BinOp.and IntKind.u64 0 9223372036854775808 != 0) = false := by kernel_rfl
theorem ret_i64 {a b : Int} (h : a = b) : Ending.returned (.int .i64 a) = .returned (.int .i64 b) := by rw [h]
theorem ret_u64 {a b : Int} (h : a = b) : Ending.returned (.int .u64 a) = .returned (.int .u64 b) := by rw [h]
theorem sec_any (g : Nat) (x : Int) (w : World) (h0 : w.cell? ⟨g, 0, none⟩ = some (.int .u64 0)) (h1 : w.cell? ⟨g, 1, none⟩ = some (.int .i64 x)) :
  Calls Tryz.prog 78 #[.pointer (some ⟨g, 0, none⟩)] w fun e w' => e = .returned (.int .i64 x) ∧ w = w' := by
 have hm := no_mono
 go_enter Tryz.func78, Tryz.ntmps78
 go_wp2
 go_ret
 exact ⟨rfl, rfl⟩
theorem unixSec_any (g : Nat) (x : Int) (w : World) (hx0 : 62700000000 ≤ x) (hx1 : x ≤ 66100000000) (h0 : w.cell? ⟨g, 0, none⟩ = some (.int .u64 0)) (h1 : w.cell? ⟨g, 1, none⟩ = some (.int .i64 x)) :
  Calls Tryz.prog 144 #[.pointer (some ⟨g, 0, none⟩)] w fun e w' => e = .returned (.int .i64 (x - 62135596800)) ∧ w = w' := by
 go_enter Tryz.func144, Tryz.ntmps144
 go_wp2_with (go_at_call 78; refine (sec_any g x _ h0 h1).mono ?_; rintro e w' ⟨rfl, rfl⟩)
 go_ret
 exact ⟨ret_i64 (by omega), rfl⟩
theorem stripMono_any (g : Nat) (w : World) (h0 : w.cell? ⟨g, 0, none⟩ = some (.int .u64 0)) :
  Calls Tryz.prog 69 #[.pointer (some ⟨g, 0, none⟩)] w fun e w' => e = .returned (.tuple #[]) ∧ w = w' := by
 have hm := no_mono
 go_enter Tryz.func69, Tryz.ntmps69
 go_wp2
 go_end0
 exact ⟨rfl, rfl⟩
def utcCells : Array Value := #[.bool true, .string ⟨#[85, 84, 67]⟩, .slice none 0 0, .slice none 0 0, .string ⟨#[]⟩, .int .i64 0, .int .i64 0, .pointer none]
def IsUtc (w : World) (b : Nat) : Prop := w.heap[b]? = some (.cells utcCells 127)
theorem IsUtc.cell {w : World} {b : Nat} (h : IsUtc w b) (j : Nat) : w.cell? ⟨b, j, none⟩ = utcCells[j]? := by
 unfold IsUtc at h; simp [World.cell?, h]
theorem utc_any (w : World) :
  Calls Tryz.prog 44 #[] w fun e w' => e = .returned (.pointer (some ⟨w.heap.size, 0, none⟩)) ∧ w.alloc (.cells utcCells 127) = w' := by
 go_enter Tryz.func44, Tryz.ntmps44
 go_wp2
 go_ret
 exact ⟨rfl, rfl⟩
theorem get_nil (w : World) :
  Calls Tryz.prog 67 #[.pointer none] w fun e w' => e = .returned (.pointer (some ⟨w.heap.size, 0, none⟩)) ∧ w.alloc (.cells utcCells 127) = w' := by
 go_enter Tryz.func67, Tryz.ntmps67
 go_wp2_with (go_at_call 44; refine (utc_any _).mono ?_; rintro e w' ⟨rfl, rfl⟩)
 go_ret
 exact ⟨rfl, rfl⟩
theorem get_some (b : Nat) (w : World) :
  Calls Tryz.prog 67 #[.pointer (some ⟨b, 0, none⟩)] w fun e w' => e = .returned (.pointer (some ⟨b, 0, none⟩)) ∧ w = w' := by
 go_enter Tryz.func67, Tryz.ntmps67
 go_wp2
 go_ret
 exact ⟨rfl, rfl⟩
theorem unixTime_any (s : Int) (w : World) (h0 : 500000000 ≤ s) (h1 : s ≤ 4000000000) :
  Calls Tryz.prog 54 #[.int .i64 s, .int .i32 0] w fun e w' => e = .returned (.agg #[.int .u64 0, .int .i64 (s + 62135596800), .pointer none]) ∧ Below w.heap.size w w' := by
 go_enter Tryz.func54, Tryz.ntmps54
 go_wp2
 exact bodyPost_ret (v := .agg #[.int .u64 0, .int .i64 (s + 62135596800), .pointer none]) (by simp [results, Tryz.results54, go_sem]) rfl ⟨rfl, (Below.refl _ _).alloc (Nat.le_refl _) _⟩
theorem setLoc_any (g b : Nat) (x : Int) (w : World) (hg : w.heap[g]? = some (.cells #[.int .u64 0, .int .i64 x, .pointer none] 79)) (hb : w.cell? ⟨b, 0, none⟩ = some (.bool true)) :
  Calls Tryz.prog 55 #[.pointer (some ⟨g, 0, none⟩), .pointer (some ⟨b, 0, none⟩)] w fun e w' => e = .returned (.tuple #[]) ∧ w.setCell ⟨g, 2, none⟩ (.pointer none) = w' := by
 have h0 : w.cell? ⟨g, 0, none⟩ = some (.int .u64 0) := by simp [World.cell?, hg]
 have h2 : w.cell? ⟨g, 2, none⟩ = some (.pointer none) := by simp [World.cell?, hg]
 have f2 : w.frozen? ⟨g, 2, none⟩ = false := by simp [World.frozen?, hg]
 clear hg
 go_enter Tryz.func55, Tryz.ntmps55
 go_wp2_with (go_at_call 69; refine (stripMono_any g _ h0).mono ?_; rintro e w' ⟨rfl, rfl⟩)
 go_end0
 exact ⟨rfl, rfl⟩
set_option maxRecDepth 100000 in
theorem lookup_any (b : Nat) (s : Int) (w : World) (hb : w.cell? ⟨b, 2, none⟩ = some (.slice none 0 0)) :
  Calls Tryz.prog 53 #[.pointer (some ⟨b, 0, none⟩), .int .i64 s] w fun e w' => e = .returned (.tuple #[.string ⟨#[85, 84, 67]⟩, .int .i64 0, .int .i64 (-9223372036854775808), .int .i64 9223372036854775807, .bool false]) ∧ w = w' := by
 go_enter Tryz.func53, Tryz.ntmps53
 go_wp2_with (go_at_call 67; refine (get_some b _).mono ?_; rintro e w' ⟨rfl, rfl⟩)
 refine bodyPost_ret (v := .tuple #[.string ⟨#[85, 84, 67]⟩, .int .i64 0, .int .i64 (-9223372036854775808), .int .i64 9223372036854775807, .bool false]) (by simp [results, Tryz.results53, go_sem]) rfl ⟨rfl, rfl⟩
theorem alloc_new (w : World) (o : Obj) : (w.alloc o).heap[w.heap.size]? = some o := heap_alloc_new w o
theorem isUtc_new (w : World) (n : Nat) (h : n = w.heap.size) : IsUtc (w.alloc (.cells utcCells 127)) n := by subst h; exact alloc_new _ _
theorem utc0 : utcCells[0]? = some (.bool true) := rfl
set_option maxRecDepth 100000 in
theorem absSec_any (x : Int) (w : World) (hx0 : 62700000000 ≤ x) (hx1 : x ≤ 66100000000) :
  Calls Tryz.prog 124 #[.agg #[.int .u64 0, .int .i64 x, .pointer none]] w fun e w' => e = .returned (.int .u64 (x + 9223371966606163200)) ∧ Below w.heap.size w w' := by
 have hu := utc0
 go_enter Tryz.func124, Tryz.ntmps124
 go_wp2_with (first | (go_at_call 67; refine (get_nil _).mono ?_; rintro e w' ⟨rfl, rfl⟩) | (go_at_call 144; refine (unixSec_any _ x _ hx0 hx1 (by go_simp) (by go_simp)).mono ?_; rintro e w' ⟨rfl, rfl⟩))
 go_ret
 exact ⟨ret_u64 (by first | omega | (simp; omega)), (((Below.refl _ _).alloc (Nat.le_refl _) _).alloc (by simp) _)⟩
theorem location_any (x : Int) (w : World) :
  Calls Tryz.prog 115 #[.agg #[.int .u64 0, .int .i64 x, .pointer none]] w fun e w' => ∃ b, e = .returned (.pointer (some ⟨b, 0, none⟩)) ∧ w.heap.size ≤ b ∧ IsUtc w' b ∧ Below w.heap.size w w' := by
 go_enter Tryz.func115, Tryz.ntmps115
 go_wp2_with (go_at_call 44; refine (utc_any _).mono ?_; rintro e w' ⟨rfl, rfl⟩)
 go_ret
 exact ⟨_, rfl, by simp, isUtc_new _ _ (by simp), (((Below.refl _ _).alloc (Nat.le_refl _) _).alloc (by simp) _)⟩
end Go.Proofs.YtemgofomhjabpaaGreatDoor.Core
namespace Go.Proofs.YtemgofomhjabpaaGreatDoor.Core
open Go.RowKit Go.Proofs.YtemgofomhjabpaaGreatDoorW.PrintWords
def cumI (y mo : Int) : Int := rd [0, 0, 31, 59, 90, 120, 151, 181, 212, 243, 273, 304, 334] mo + (if leapI y = true ∧ 2 < mo then 1 else 0)
def dayN (y mo d : Int) : Int := (y - 1) * 365 + (y - 1) / 4 - (y - 1) / 100 + (y - 1) / 400 + d + cumI y mo
def wdI (y mo d : Int) : Int := dayN y mo d % 7
theorem absD_table : ∀ i : Fin 104, ∀ m : Fin 12, absD (1989 + (i.val : Int)) (m.val + 1) 1 = dayN (1989 + (i.val : Int)) (m.val + 1) 1 + 106751990354237 := by decide +kernel
theorem absD_dayN (y mo d : Int) (y0 : 1989 ≤ y) (y1 : y ≤ 2092) (m0 : 1 ≤ mo) (m1 : mo ≤ 12) : absD y mo d = dayN y mo d + 106751990354237 := by
 have h := absD_table ⟨(y - 1989).toNat, by omega⟩ ⟨(mo - 1).toNat, by omega⟩
 simp only at h
 rw [show (1989 : Int) + ((y - 1989).toNat : Int) = y by omega, show (((mo - 1).toNat : Int) + 1) = mo by omega] at h
 have e1 : absD y mo d = absD y mo 1 + (d - 1) := by unfold absD aydI; omega
 have e2 : dayN y mo d = dayN y mo 1 + (d - 1) := by unfold dayN; omega
 rw [e1, e2, h]
 omega
theorem cumI_range (y mo : Int) (m0 : 1 ≤ mo) (m1 : mo ≤ 12) : 0 ≤ cumI y mo ∧ cumI y mo + daysI y mo ≤ 366 := by
 rcases months m0 m1 with h | h | h | h | h | h | h | h | h | h | h | h <;> subst h <;> cases hl : leapI y <;> simp [cumI, daysI, hl, rd]
theorem absD_range {y mo d : Int} (h : DateOk y mo d) : 106751991080340 ≤ absD y mo d ∧ absD y mo d ≤ 106751991118400 := by
 have e := absD_dayN y mo d h.y0 h.y1 h.m0 h.m1
 obtain ⟨c0, c1⟩ := cumI_range y mo h.m0 h.m1
 have := h.y0
 have := h.y1
 have := h.d0
 have := h.d1
 unfold dayN at e
 omega
theorem weekday_date {y mo d : Int} (h : DateOk y mo d) : gotime_absDays_weekday.f (absD y mo d) = some (wdI y mo d) := by
 have hr := absD_range h
 have e := absD_dayN y mo d h.y0 h.y1 h.m0 h.m1
 unfold gotime_absDays_weekday.f wdI
 rw [u64_id (by omega) (by omega), Int.tmod_eq_emod_of_nonneg (by omega), wrap64_id (by omega) (by omega), e]
 congr 1
 omega
def extOf (y mo d h mi s : Int) : Int := absD y mo d * 86400 + (h * 3600 + mi * 60 + s) - 9223371966606163200
structure ClockOk (h mi s : Int) : Prop where
 h0 : 0 ≤ h
 h1 : h ≤ 23
 m0 : 0 ≤ mi
 m1 : mi ≤ 59
 s0 : 0 ≤ s
 s1 : s ≤ 59
theorem ext_range {y mo d h mi s : Int} (hd : DateOk y mo d) (hc : ClockOk h mi s) : 62700000000 ≤ extOf y mo d h mi s ∧ extOf y mo d h mi s ≤ 66100000000 := by
 have := absD_range hd
 obtain ⟨h0, h1, m0, m1, s0, s1⟩ := hc
 unfold extOf
 omega
theorem days_ext {y mo d h mi s : Int} (hd : DateOk y mo d) (hc : ClockOk h mi s) : gotime_absSeconds_days.f (extOf y mo d h mi s + 9223371966606163200) = some (absD y mo d) := by
 have := absD_range hd
 obtain ⟨h0, h1, m0, m1, s0, s1⟩ := hc
 unfold gotime_absSeconds_days.f extOf
 have e : absD y mo d * 86400 + (h * 3600 + mi * 60 + s) - 9223371966606163200 + 9223371966606163200 = absD y mo d * 86400 + (h * 3600 + mi * 60 + s) := by omega
 rw [e, Int.tdiv_eq_ediv_of_nonneg (by omega)]
 have e2 : (absD y mo d * 86400 + (h * 3600 + mi * 60 + s)) / 86400 = absD y mo d := by omega
 rw [e2, u64_id (by omega) (by omega)]
end Go.Proofs.YtemgofomhjabpaaGreatDoor.Core
namespace Go.Proofs.YtemgofomhjabpaaGreatDoor.Core
open Go.RowKit Go.Proofs.YtemgofomhjabpaaGreatDoorW.PrintWords Go.Proofs.YtemgofomhjabpaaGreatDoorW.PrintLast Go.Proofs.YtemgofomhjabpaaGreatDoorW.PrintMore
attribute [local go_sem] max2_int min2_int max_two min_two max_three min_three max_four min_four   -- for this text's walks alone
set_option linter.unusedVariables false
set_option linter.unusedSimpArgs false
end Go.Proofs.YtemgofomhjabpaaGreatDoor.Core
namespace Go.Proofs.YtemgofomhjabpaaGreatDoor.Core
open Go.RowKit Go.Proofs.YtemgofomhjabpaaGreatDoorW.PrintWords
section
variable (x D C cy a j y mo d : Int) (w : World) (hx0 : 62700000000 ≤ x) (hx1 : x ≤ 66100000000)
include hx0 hx1
theorem year_w (h1 : Aside0 (gotime_absSeconds_days.f (x + 9223371966606163200) = some D)) (h2 : Aside0 (gotime_absDays_split.f D = some (C, cy, a))) (h3 : Aside0 (gotime_absYday_janFeb.f a = some j)) (h4 : Aside0 (gotime_absCentury_year.f C cy j = some y)) :
  Calls Tryz.prog 118 #[.agg #[.int .u64 0, .int .i64 x, .pointer none]] w fun e w' => e = .returned (.int .i64 y) ∧ Below w.heap.size w w' := by
 go_enter Tryz.func118, Tryz.ntmps118
 go_wp2_with (first | (go_at_call 124; refine (absSec_any x _ hx0 hx1).mono ?_; rintro e w1 ⟨rfl, hb⟩) | (go_at_call 125; refine (gotime_absSeconds_days.calls _ D _ h1.out).mono ?_; rintro e w2 ⟨rfl, ⟨n2, rfl⟩⟩) | (go_at_call 126; refine (gotime_absDays_split.calls _ C cy a _ h2.out).mono ?_; rintro e w3 ⟨rfl, ⟨n3, rfl⟩⟩) | (go_at_call 137; refine (gotime_absYday_janFeb.calls _ j _ h3.out).mono ?_; rintro e w4 ⟨rfl, ⟨n4, rfl⟩⟩) | (go_at_call 138; refine (gotime_absCentury_year.calls _ _ _ y _ h4.out).mono ?_; rintro e w5 ⟨rfl, ⟨n5, rfl⟩⟩))
 go_ret
 exact ⟨rfl, by repeat (first | exact hb | exact below_then (below_alloc (Below.refl _ _) _) (by simp) hb | apply pw_below_drewN)⟩
theorem month_w (h1 : Aside0 (gotime_absSeconds_days.f (x + 9223371966606163200) = some D)) (h2 : Aside0 (gotime_absDays_split.f D = some (C, cy, a))) (h3 : Aside0 (gotime_absYday_split.f a = some (j, d))) (h5 : Aside0 (gotime_absYday_janFeb.f a = some y)) (h4 : Aside0 (gotime_absMonth_month.f j y = some mo)) :
  Calls Tryz.prog 119 #[.agg #[.int .u64 0, .int .i64 x, .pointer none]] w fun e w' => e = .returned (.int .i64 mo) ∧ Below w.heap.size w w' := by
 go_enter Tryz.func119, Tryz.ntmps119
 go_wp2_with (first | (go_at_call 124; refine (absSec_any x _ hx0 hx1).mono ?_; rintro e w1 ⟨rfl, hb⟩) | (go_at_call 125; refine (gotime_absSeconds_days.calls _ D _ h1.out).mono ?_; rintro e w2 ⟨rfl, ⟨n2, rfl⟩⟩) | (go_at_call 126; refine (gotime_absDays_split.calls _ C cy a _ h2.out).mono ?_; rintro e w3 ⟨rfl, ⟨n3, rfl⟩⟩) | (go_at_call 127; refine (gotime_absYday_split.calls _ j d _ h3.out).mono ?_; rintro e w4 ⟨rfl, ⟨n4, rfl⟩⟩) | (go_at_call 137; refine (gotime_absYday_janFeb.calls _ y _ h5.out).mono ?_; rintro e w5 ⟨rfl, ⟨n5, rfl⟩⟩) | (go_at_call 139; refine (gotime_absMonth_month.calls _ _ mo _ h4.out).mono ?_; rintro e w6 ⟨rfl, ⟨n6, rfl⟩⟩))
 go_ret
 exact ⟨rfl, by repeat (first | exact hb | exact below_then (below_alloc (Below.refl _ _) _) (by simp) hb | apply pw_below_drewN)⟩
theorem day_w (h1 : Aside0 (gotime_absSeconds_days.f (x + 9223371966606163200) = some D)) (h2 : Aside0 (gotime_absDays_split.f D = some (C, cy, a))) (h3 : Aside0 (gotime_absYday_split.f a = some (j, d))) :
  Calls Tryz.prog 109 #[.agg #[.int .u64 0, .int .i64 x, .pointer none]] w fun e w' => e = .returned (.int .i64 d) ∧ Below w.heap.size w w' := by
 go_enter Tryz.func109, Tryz.ntmps109
 go_wp2_with (first | (go_at_call 124; refine (absSec_any x _ hx0 hx1).mono ?_; rintro e w1 ⟨rfl, hb⟩) | (go_at_call 125; refine (gotime_absSeconds_days.calls _ D _ h1.out).mono ?_; rintro e w2 ⟨rfl, ⟨n2, rfl⟩⟩) | (go_at_call 126; refine (gotime_absDays_split.calls _ C cy a _ h2.out).mono ?_; rintro e w3 ⟨rfl, ⟨n3, rfl⟩⟩) | (go_at_call 127; refine (gotime_absYday_split.calls _ j d _ h3.out).mono ?_; rintro e w4 ⟨rfl, ⟨n4, rfl⟩⟩))
 go_ret
 exact ⟨rfl, by repeat (first | exact hb | exact below_then (below_alloc (Below.refl _ _) _) (by simp) hb | apply pw_below_drewN)⟩
theorem weekday_w (h1 : Aside0 (gotime_absSeconds_days.f (x + 9223371966606163200) = some D)) (h2 : Aside0 (gotime_absDays_weekday.f D = some d)) :
  Calls Tryz.prog 131 #[.agg #[.int .u64 0, .int .i64 x, .pointer none]] w fun e w' => e = .returned (.int .i64 d) ∧ Below w.heap.size w w' := by
 go_enter Tryz.func131, Tryz.ntmps131
 go_wp2_with (first | (go_at_call 124; refine (absSec_any x _ hx0 hx1).mono ?_; rintro e w1 ⟨rfl, hb⟩) | (go_at_call 125; refine (gotime_absSeconds_days.calls _ D _ h1.out).mono ?_; rintro e w2 ⟨rfl, ⟨n2, rfl⟩⟩) | (go_at_call 146; refine (gotime_absDays_weekday.calls _ d _ h2.out).mono ?_; rintro e w3 ⟨rfl, ⟨n3, rfl⟩⟩))
 go_ret
 exact ⟨rfl, by repeat (first | exact hb | exact below_then (below_alloc (Below.refl _ _) _) (by simp) hb | apply pw_below_drewN)⟩
theorem hour_w : Calls Tryz.prog 130 #[.agg #[.int .u64 0, .int .i64 x, .pointer none]] w fun e w' => e = .returned (.int .i64 ((x + 9223371966606163200) % 86400 / 3600)) ∧ Below w.heap.size w w' := by
 go_enter Tryz.func130, Tryz.ntmps130
 go_wp2_with (go_at_call 124; refine (absSec_any x _ hx0 hx1).mono ?_; rintro e w1 ⟨rfl, hb⟩)
 go_ret
 exact ⟨ret_i64 (by first | rfl | omega), by repeat (first | exact hb | exact below_then (below_alloc (Below.refl _ _) _) (by simp) hb | apply pw_below_drewN)⟩
theorem minute_w : Calls Tryz.prog 129 #[.agg #[.int .u64 0, .int .i64 x, .pointer none]] w fun e w' => e = .returned (.int .i64 ((x + 9223371966606163200) % 3600 / 60)) ∧ Below w.heap.size w w' := by
 go_enter Tryz.func129, Tryz.ntmps129
 go_wp2_with (go_at_call 124; refine (absSec_any x _ hx0 hx1).mono ?_; rintro e w1 ⟨rfl, hb⟩)
 go_ret
 exact ⟨ret_i64 (by first | rfl | omega), by repeat (first | exact hb | exact below_then (below_alloc (Below.refl _ _) _) (by simp) hb | apply pw_below_drewN)⟩
theorem second_w : Calls Tryz.prog 128 #[.agg #[.int .u64 0, .int .i64 x, .pointer none]] w fun e w' => e = .returned (.int .i64 ((x + 9223371966606163200) % 60)) ∧ Below w.heap.size w w' := by
 go_enter Tryz.func128, Tryz.ntmps128
 go_wp2_with (go_at_call 124; refine (absSec_any x _ hx0 hx1).mono ?_; rintro e w1 ⟨rfl, hb⟩)
 go_ret
 exact ⟨ret_i64 (by first | rfl | omega), by repeat (first | exact hb | exact below_then (below_alloc (Below.refl _ _) _) (by simp) hb | apply pw_below_drewN)⟩
end
theorem norm_in (hi lo base : Int) (w : World) (h0 : 0 ≤ lo) (h1 : lo < base) :
  Calls Tryz.prog 51 #[.int .i64 hi, .int .i64 lo, .int .i64 base] w fun e w' => e = .returned (.tuple #[.int .i64 hi, .int .i64 lo]) ∧ w = w' := by
 have e1 : decide (lo < 0) = false := decide_eq_false (by omega)
 have e2 : decide (base ≤ lo) = false := decide_eq_false (by omega)
 go_enter Tryz.func51, Tryz.ntmps51
 go_wp2
 go_ret2
 exact ⟨rfl, rfl⟩
end Go.Proofs.YtemgofomhjabpaaGreatDoor.Core
namespace Go.Proofs.YtemgofomhjabpaaGreatDoor.Core
open Go.RowKit Go.Proofs.YtemgofomhjabpaaGreatDoorW.PrintWords
theorem dta (y mo d D a b c : Int) (w : World) (hD : Aside0 (gotime_dateToAbsDays.f y mo d = some D)) (ha : a = y) (hb : b = mo) (hc : c = d) :
  Calls Tryz.prog 52 #[.int .i64 a, .int .i64 b, .int .i64 c] w fun e w' => e = .returned (.int .u64 D) ∧ Drawn0 w w' := by
 subst ha; subst hb; subst hc
 exact gotime_dateToAbsDays.calls _ _ _ D _ hD.out
theorem setLoc_after (g b : Nat) (x : Int) (w : World) (hg : w.heap[g]? = some (.cells #[.int .u64 0, .int .i64 x, .pointer none] 79)) (hb : w.cell? ⟨b, 0, none⟩ = some (.bool true)) :
  Calls Tryz.prog 55 #[.pointer (some ⟨g, 0, none⟩), .pointer (some ⟨b, 0, none⟩)] w fun e w' => e = .returned (.tuple #[]) ∧ w.setCell ⟨g, 2, none⟩ (.pointer none) = w' := setLoc_any g b x w hg hb
theorem ret_time {a b : Int} (h : a = b) : Ending.returned (.agg #[.int .u64 0, .int .i64 a, .pointer none]) = .returned (.agg #[.int .u64 0, .int .i64 b, .pointer none]) := by rw [h]
theorem cell_after {w w1 : World} {a : Addr} {v : Value} (h : Below w.heap.size w w1) (hc : w.cell? a = some v) : w1.cell? a = some v := pw_cell_below h hc
theorem after_tm {w w4 : World} {n : Nat} (h : Below ((w.alloc (.cells #[.int .u64 0, .int .i64 0, .pointer none] 79)).drewN n).heap.size ((w.alloc (.cells #[.int .u64 0, .int .i64 0, .pointer none] 79)).drewN n) w4) :
  w4.heap[w.heap.size]? = some (.cells #[.int .u64 0, .int .i64 0, .pointer none] 79) ∧ w.heap.size < w4.heap.size ∧ Below w.heap.size w w4 := by
 have hs : w.heap.size < ((w.alloc (.cells #[.int .u64 0, .int .i64 0, .pointer none] 79)).drewN n).heap.size := by
  show w.heap.size < (w.alloc _).heap.size; simp
 have hb : Below w.heap.size w ((w.alloc (.cells #[.int .u64 0, .int .i64 0, .pointer none] 79)).drewN n) := below_drewN ((Below.refl _ _).alloc (Nat.le_refl _) _) n
 exact ⟨(h.block w.heap.size hs).trans (heap_alloc_new w _), Nat.lt_of_lt_of_le hs h.size, hb.trans (h.mono (Nat.le_of_lt hs))⟩
theorem set_same {w : World} {a : Addr} {u v : Value} (h : w.cell? a = some u) : (w.setCell a v).cell? a = some v := World.cell?_setCell_same _ _ _ h
theorem set_other {w : World} {a b : Addr} {v : Value} (h : a ≠ b) : (w.setCell a v).cell? b = w.cell? b := World.cell?_setCell_other _ _ _ _ h
theorem res3 {w4 : World} {g : Nat} {x0 x1 x2 a b c : Value} {t : TypeId} (o : Obj) (hA : w4.heap[g]? = some (.cells #[x0, x1, x2] t)) :
  ((((w4.setCell ⟨g, 0, none⟩ a).setCell ⟨g, 1, none⟩ b).setCell ⟨g, 2, none⟩ c).alloc o).cell? ⟨g, 0, none⟩ = some a ∧
  ((((w4.setCell ⟨g, 0, none⟩ a).setCell ⟨g, 1, none⟩ b).setCell ⟨g, 2, none⟩ c).alloc o).cell? ⟨g, 1, none⟩ = some b ∧
  ((((w4.setCell ⟨g, 0, none⟩ a).setCell ⟨g, 1, none⟩ b).setCell ⟨g, 2, none⟩ c).alloc o).cell? ⟨g, 2, none⟩ = some c := by
 have h0 : w4.cell? ⟨g, 0, none⟩ = some x0 := by simp [World.cell?, hA]
 have h1 : w4.cell? ⟨g, 1, none⟩ = some x1 := by simp [World.cell?, hA]
 have h2 : w4.cell? ⟨g, 2, none⟩ = some x2 := by simp [World.cell?, hA]
 have k0 : (w4.setCell ⟨g, 0, none⟩ a).cell? ⟨g, 0, none⟩ = some a := set_same h0
 have k1 : ((w4.setCell ⟨g, 0, none⟩ a).setCell ⟨g, 1, none⟩ b).cell? ⟨g, 0, none⟩ = some a := (set_other (by simp)).trans k0
 have k2 : ((w4.setCell ⟨g, 0, none⟩ a).setCell ⟨g, 1, none⟩ b).cell? ⟨g, 1, none⟩ = some b := set_same ((set_other (by simp)).trans h1)
 have j0 := (set_other (v := c) (b := ⟨g, 0, none⟩) (a := ⟨g, 2, none⟩) (by simp)).trans k1
 have j1 := (set_other (v := c) (b := ⟨g, 1, none⟩) (a := ⟨g, 2, none⟩) (by simp)).trans k2
 have j2 : (((w4.setCell ⟨g, 0, none⟩ a).setCell ⟨g, 1, none⟩ b).setCell ⟨g, 2, none⟩ c).cell? ⟨g, 2, none⟩ = some c := set_same ((set_other (by simp)).trans ((set_other (by simp)).trans h2))
 exact ⟨cell_after ((Below.refl _ _).alloc (Nat.le_refl _) o) j0, cell_after ((Below.refl _ _).alloc (Nat.le_refl _) o) j1, cell_after ((Below.refl _ _).alloc (Nat.le_refl _) o) j2⟩
set_option maxRecDepth 100000 in
theorem date_w (y mo d h mi s D : Int) (b : Nat) (w : World) (hm0 : 1 ≤ mo) (hm1 : mo ≤ 12) (hh0 : 0 ≤ h) (hh1 : h ≤ 23) (hi0 : 0 ≤ mi) (hi1 : mi ≤ 59) (hs0 : 0 ≤ s) (hs1 : s ≤ 59)
  (hD : Aside0 (gotime_dateToAbsDays.f y mo d = some D)) (hD0 : 106751991080340 ≤ D) (hD1 : D ≤ 106751991118400) (hb0 : w.cell? ⟨b, 0, none⟩ = some (.bool true)) (hb2 : w.cell? ⟨b, 2, none⟩ = some (.slice none 0 0)) :
  Calls Tryz.prog 43 #[.int .i64 y, .int .i64 mo, .int .i64 d, .int .i64 h, .int .i64 mi, .int .i64 s, .int .i64 0, .pointer (some ⟨b, 0, none⟩)] w
   fun e w' => e = .returned (.agg #[.int .u64 0, .int .i64 (D * 86400 + (h * 3600 + mi * 60 + s) + -9223371966606163200), .pointer none]) ∧ Below w.heap.size w w' := by
 have hk : ∀ o n, ((w.alloc o).drewN n).cell? ⟨b, 2, none⟩ = some (.slice none 0 0) := fun o n => cell_after (below_drewN ((Below.refl _ _).alloc (Nat.le_refl _) o) n) hb2
 have hbB := World.block_lt_of_cell? w ⟨b, 0, none⟩ hb0
 go_enter Tryz.func43, Tryz.ntmps43
 go_wp2_with (first | (go_at_call 51; refine (norm_in _ _ _ _ (by omega) (by omega)).mono ?_; rintro e w' ⟨rfl, rfl⟩) | (go_at_call 52; refine (dta y mo d D _ _ _ _ hD (by omega) (by omega) (by omega)).mono ?_; rintro e w2 ⟨rfl, ⟨n2, rfl⟩⟩) | (go_at_call 53; refine (lookup_any b _ _ (hk _ _)).mono ?_; rintro e w3 ⟨rfl, rfl⟩) | (go_at_call 54; refine (unixTime_any _ _ (by omega) (by omega)).mono ?_; rintro e w4 ⟨rfl, hbl⟩; obtain ⟨hA, hsz, hbw⟩ := after_tm hbl; have hc0 := cell_after hbw hb0; have hcA0 : w4.cell? ⟨w.heap.size, 0, none⟩ = some (.int .u64 0) := (by simp [World.cell?, hA]); have hcA1 : w4.cell? ⟨w.heap.size, 1, none⟩ = some (.int .i64 0) := (by simp [World.cell?, hA]); have hcA2 : w4.cell? ⟨w.heap.size, 2, none⟩ = some (.pointer none) := (by simp [World.cell?, hA]); have hfA0 : w4.frozen? ⟨w.heap.size, 0, none⟩ = false := (by simp [World.frozen?, hA]); have hfA1 : w4.frozen? ⟨w.heap.size, 1, none⟩ = false := (by simp [World.frozen?, hA]); have hfA2 : w4.frozen? ⟨w.heap.size, 2, none⟩ = false := (by simp [World.frozen?, hA]); have hne : w.heap.size ≠ w4.heap.size := Nat.ne_of_lt hsz; have hne' : w4.heap.size ≠ w.heap.size := Nat.ne_of_gt hsz) | (go_at_call 55; refine (setLoc_after _ b _ _ (heap_alloc_new _ _) (cell_after ((Below.refl _ _).alloc (Nat.le_refl _) _) hc0)).mono ?_; rintro e w5 ⟨rfl, rfl⟩))
 obtain ⟨r0, r1, r2⟩ := res3 (a := .int .u64 0) (b := .int .i64 (D * 86400 + (h * 3600 + mi * 60 + s) + -9223372028741760000 + 62135596800)) (c := .pointer none) (.cells #[.int .u64 0, .int .i64 (D * 86400 + (h * 3600 + mi * 60 + s) + -9223372028741760000 + 62135596800), .pointer none] 79) hA
 refine bodyPost_ret (v := .agg #[.int .u64 0, .int .i64 (D * 86400 + (h * 3600 + mi * 60 + s) + -9223372028741760000 + 62135596800), .pointer none]) (by simp [results, Tryz.results43, go_sem, r0, r1, r2]) rfl ⟨ret_time (by omega), ?_⟩
 exact ((((hbw.setCell (Nat.le_refl _) _).setCell (Nat.le_refl _) _).setCell (Nat.le_refl _) _)).alloc (by simpa using Nat.le_of_lt hsz) _
end Go.Proofs.YtemgofomhjabpaaGreatDoor.Core
namespace Go.Proofs.YtemgofomhjabpaaGreatDoor.Core
open Go.RowKit Go.Proofs.YtemgofomhjabpaaGreatDoorW.PrintWords
theorem tmodz (y n : Int) (h : 0 ≤ y) : Int.tmod y n = y % n := Int.tmod_eq_emod_of_nonneg h
theorem leap_some (y : Int) (h : 0 ≤ y) : spec_Leap.f y = some (leapI y) := by
 unfold spec_Leap.f leapI
 rw [tmodz y 4 h, tmodz y 100 h, tmodz y 400 h]
 by_cases h4 : y % 4 = 0
 ·rw [if_pos h4]
  by_cases h1 : y % 100 = 0
  ·rw [if_pos h1]; simp [h4, h1]; rfl
  ·rw [if_neg h1]; simp [h4, h1]
 ·rw [if_neg h4]; simp [h4]
theorem days_some (y mo : Int) (h : 0 ≤ y) (m0 : 1 ≤ mo) (m1 : mo ≤ 12) : spec_Days.f y mo = some (daysI y mo) := by
 unfold spec_Days.f daysI
 by_cases h2 : mo = 2
 ·rw [if_pos h2, leap_some y h, Option.bind_some]
  cases hl : leapI y with
  | true => rw [if_pos rfl, if_pos ⟨h2, rfl⟩]
  | false => rw [if_neg (by simp), if_pos (by omega), if_pos (by omega), if_neg (by simp)]
 ·rw [if_neg h2, if_pos (by omega), if_pos (by omega), if_neg (fun e => h2 e.1)]
theorem days_quiet (y mo : Int) (hd : spec_Days.f y mo = some (daysI y mo)) (w : World) (n : Nat) : Calls Tryz.prog 37 #[.int .i64 y, .int .i64 mo] (w.drewN n) fun e w'' => e = .returned (.int .i64 (daysI y mo)) ∧ ∃ m, w'' = w.drewN m := by
 refine Calls.quiet_of ((spec_Days.calls y mo (daysI y mo) _ hd).mono ?_)
 rintro e w' ⟨rfl, ⟨nd, rfl⟩⟩
 exact ⟨rfl, nd, rfl⟩
def goodM (y mo d h mi s : Int) : Bool := decide (1990 ≤ y ∧ y ≤ 2090 ∧ 1 ≤ mo ∧ mo ≤ 12 ∧ 1 ≤ d ∧ d ≤ daysI y mo ∧ 0 ≤ h ∧ h ≤ 23 ∧ 0 ≤ mi ∧ mi ≤ 59 ∧ 0 ≤ s ∧ s ≤ 59)
set_option maxRecDepth 100000 in
set_option maxHeartbeats 2000000 in
theorem mg_0 (y mo d h mi s : Int) (a0 : ¬ 1990 ≤ y) : GoodC y mo d h mi s false := by
 intro w
 replace a0 : (1990 ≤ y) = False := eq_false a0
 go_enter Tryz.func22, Tryz.ntmps22
 go_wp2
 go_quiet (fail)
 go_wp2
 go_ret
 exact ⟨rfl, by repeat (first | exact Below.refl _ _ | apply below_alloc | apply below_drew1 | apply pw_below_drewN)⟩
set_option maxRecDepth 100000 in
set_option maxHeartbeats 2000000 in
theorem mg_1 (y mo d h mi s : Int) (a0 : 1990 ≤ y) (a1 : ¬ y ≤ 2090) : GoodC y mo d h mi s false := by
 intro w
 replace a1 : (y ≤ 2090) = False := eq_false a1
 go_enter Tryz.func22, Tryz.ntmps22
 go_wp2
 go_quiet (fail)
 go_wp2
 go_ret
 exact ⟨rfl, by repeat (first | exact Below.refl _ _ | apply below_alloc | apply below_drew1 | apply pw_below_drewN)⟩
set_option maxRecDepth 100000 in
set_option maxHeartbeats 2000000 in
theorem mg_2 (y mo d h mi s : Int) (a0 : 1990 ≤ y) (a1 : y ≤ 2090) (a2 : ¬ 1 ≤ mo) : GoodC y mo d h mi s false := by
 intro w
 replace a2 : (1 ≤ mo) = False := eq_false a2
 go_enter Tryz.func22, Tryz.ntmps22
 go_wp2
 go_quiet (fail)
 go_wp2
 go_ret
 exact ⟨rfl, by repeat (first | exact Below.refl _ _ | apply below_alloc | apply below_drew1 | apply pw_below_drewN)⟩
set_option maxRecDepth 100000 in
set_option maxHeartbeats 2000000 in
theorem mg_3 (y mo d h mi s : Int) (a0 : 1990 ≤ y) (a1 : y ≤ 2090) (a2 : 1 ≤ mo) (a3 : ¬ mo ≤ 12) : GoodC y mo d h mi s false := by
 intro w
 replace a3 : (mo ≤ 12) = False := eq_false a3
 go_enter Tryz.func22, Tryz.ntmps22
 go_wp2
 go_quiet (fail)
 go_wp2
 go_ret
 exact ⟨rfl, by repeat (first | exact Below.refl _ _ | apply below_alloc | apply below_drew1 | apply pw_below_drewN)⟩
set_option maxRecDepth 100000 in
set_option maxHeartbeats 2000000 in
theorem mg_4 (y mo d h mi s : Int) (a0 : 1990 ≤ y) (a1 : y ≤ 2090) (a2 : 1 ≤ mo) (a3 : mo ≤ 12) (a4 : ¬ 1 ≤ d) : GoodC y mo d h mi s false := by
 intro w
 replace a4 : (1 ≤ d) = False := eq_false a4
 go_enter Tryz.func22, Tryz.ntmps22
 go_wp2
 go_quiet (fail)
 go_wp2
 go_ret
 exact ⟨rfl, by repeat (first | exact Below.refl _ _ | apply below_alloc | apply below_drew1 | apply pw_below_drewN)⟩
end Go.Proofs.YtemgofomhjabpaaGreatDoor.Core
namespace Go.Proofs.YtemgofomhjabpaaGreatDoor.Core
open Go.RowKit Go.Proofs.YtemgofomhjabpaaGreatDoorW.PrintWords
def idxL (m : List UInt8) : List UInt8 → Nat → Int
 | [], _ => -1
 | b :: t, i => if m.length ≤ t.length + 1 then (if (b :: t).take m.length = m then (i : Int) else idxL m t (i + 1)) else -1
theorem zzIndex_from (l m : List UInt8) (hm : m ≠ []) (hl : l.length < 4611686018427387904) (hml : m.length < 4611686018427387904) :
  ∀ (rest : List UInt8) (i : Nat), l.drop i = rest → i ≤ l.length → Ev (fun k => gronx_zzIndex.l0 k (B l) (B m) (i : Int)) (idxL m rest i) := by
 have hm0 : 0 < m.length := List.length_pos_iff.2 hm
 intro rest
 induction rest with
 | nil =>
  intro i hi hil
  have hlen : l.length ≤ i := List.drop_eq_nil_iff.1 hi
  refine Ev.done fun k => ?_
  simp only [gronx_zzIndex.l0, B_size]
  rw [wrap64_id (by omega) (by omega), if_neg (by omega)]
  rfl
 | cons b t ih =>
  intro i hi hil
  have hlen : t.length + 1 = l.length - i := by have := congrArg List.length hi; simpa using this.symm
  unfold idxL
  by_cases h1 : m.length ≤ t.length + 1
  ·rw [if_pos h1]
   have hcut : (B l).extract ((i : Int)).toNat (((i : Int) + (m.length : Int))).toNat = B ((b :: t).take m.length) := by
    rw [B_cut, show ((i : Int)).toNat = i by omega, hi, show (((i : Int) + (m.length : Int))).toNat - i = m.length by omega]
   by_cases h2 : (b :: t).take m.length = m
   ·rw [if_pos h2]
    refine Ev.done fun k => ?_
    simp only [gronx_zzIndex.l0, B_size]
    rw [wrap64_id (by omega) (by omega), if_pos (by omega), if_pos (by omega), if_pos (by omega), hcut, B_list, B_list, if_pos h2]
   ·rw [if_neg h2]
    refine Ev.step (f := fun k => gronx_zzIndex.l0 k (B l) (B m) ((i + 1 : Nat) : Int)) (fun k => ?_) (ih (i + 1) ?_ (by omega))
    ·simp only [gronx_zzIndex.l0, B_size]
     rw [wrap64_id (by omega) (by omega), if_pos (by omega), if_pos (by omega), if_pos (by omega), hcut, B_list, B_list, if_neg h2, wrap64_nat i (by omega)]
    ·rw [← List.drop_drop, hi]; rfl
  ·rw [if_neg h1]
   refine Ev.done fun k => ?_
   simp only [gronx_zzIndex.l0, B_size]
   rw [wrap64_id (by omega) (by omega), if_neg (by omega)]
theorem zzIndex_ev (l m : List UInt8) (hm : m ≠ []) (hl : l.length < 4611686018427387904) (hml : m.length < 4611686018427387904) :
  Ev (fun k => gronx_zzIndex.f k (B l) (B m)) (idxL m l 0) := zzIndex_from l m hm hl hml l 0 rfl (Nat.zero_le _)
theorem idxL_one_none (c : UInt8) (l : List UInt8) (h : c ∉ l) (i : Nat) : idxL [c] l i = -1 := by
 induction l generalizing i with
 | nil => rfl
 | cons b t ih =>
  unfold idxL
  rw [if_pos (by simp), if_neg (by simp; intro e; exact h (by simp [e])), ih (fun e => h (by simp [e]))]
theorem idxL_one_at (c : UInt8) (p r : List UInt8) (h : c ∉ p) (i : Nat) : idxL [c] (p ++ c :: r) i = ((i + p.length : Nat) : Int) := by
 induction p generalizing i with
 | nil => simp [idxL]
 | cons b t ih =>
  rw [List.cons_append]
  unfold idxL
  rw [if_pos (by simp), if_neg (by simp; intro e; exact h (by simp [e])), ih (fun e => h (by simp [e]))]
  simp
  omega
def splitL (c : UInt8) : List UInt8 → List (List UInt8)
 | [] => [[]]
 | b :: t => if b = c then [] :: splitL c t else match splitL c t with | [] => [[b]] | h :: r => (b :: h) :: r
theorem splitL_none (c : UInt8) (l : List UInt8) (h : c ∉ l) : splitL c l = [l] := by
 induction l with
 | nil => rfl
 | cons b t ih => rw [splitL, if_neg (fun e => h (by simp [e])), ih (fun e => h (by simp [e]))]
theorem splitL_at (c : UInt8) (p r : List UInt8) (h : c ∉ p) : splitL c (p ++ c :: r) = p :: splitL c r := by
 induction p with
 | nil => simp [splitL]
 | cons b t ih => rw [List.cons_append, splitL, if_neg (fun e => h (by simp [e])), ih (fun e => h (by simp [e]))]
theorem mem_cut {c : UInt8} {l : List UInt8} (h : c ∈ l) : ∃ p r, l = p ++ c :: r ∧ c ∉ p := by
 induction l with
 | nil => cases h
 | cons b t ih =>
  by_cases e : b = c
  ·exact ⟨[], t, by simp [e], by simp⟩
  ·obtain ⟨p, r, rfl, hp⟩ := ih (by rcases List.mem_cons.1 h with h | h; exact absurd h.symm e; exact h)
   exact ⟨b :: p, r, rfl, by simp [hp, Ne.symm e]⟩
theorem zzSplit_from (c : UInt8) : ∀ (n : Nat) (l : List UInt8) (acc : List ByteArray), l.length ≤ n → l.length + acc.length < 8796093022208 →
  Ev (fun k => gronx_zzSplit.l0 k (B l) (B [c]) acc) (acc ++ (splitL c l).map B) := by
 intro n
 induction n with
 | zero =>
  intro l acc hn hb
  obtain rfl : l = [] := List.eq_nil_of_length_eq_zero (by omega)
  have hix := zzIndex_ev [] [c] (by simp) (by simp) (by simp)
  refine Ev.step (f := fun k => (gronx_zzIndex.f k (B []) (B [c])).bind fun t => if t < 0 then some (acc ++ [B []]) else none) (fun k => ?_) (Ev.bind hix (Ev.const (by simp [idxL, splitL])))
  simp only [gronx_zzSplit.l0]
  cases gronx_zzIndex.f k (B []) (B [c]) with
  | none => rfl
  | some t =>
   simp only [Option.bind_some]
   by_cases h : t < 0
   ·rw [if_pos h, if_pos h, if_pos (by omega)]
   ·rw [if_neg h, if_neg h, if_pos (by omega)]
    by_cases h2 : t ≤ ((B []).size : Int)
    ·have h3 : t = 0 := by rw [B_size] at h2; simp at h2; omega
     subst h3
     rw [if_pos h2, if_pos (by omega), B_size, B_size, wrap64_id (by simp) (by simp), if_pos (by simp), if_neg (by simp)]
    ·rw [if_neg h2]
 | succ n ih =>
  intro l acc hn hb
  by_cases hc : c ∈ l
  ·obtain ⟨p, r, rfl, hp⟩ := mem_cut hc
   have hlen : (p ++ c :: r).length = p.length + 1 + r.length := by simp; omega
   have hix := zzIndex_ev (p ++ c :: r) [c] (by simp) (by omega) (by simp)
   rw [idxL_one_at c p r hp] at hix
   rw [splitL_at c p r hp]
   have hrec := ih r (acc ++ [B p]) (by omega) (by simp; omega)
   refine Ev.step (f := fun k => (gronx_zzIndex.f k (B (p ++ c :: r)) (B [c])).bind fun t => if t = ((0 + p.length : Nat) : Int) then gronx_zzSplit.l0 k (B r) (B [c]) (acc ++ [B p]) else gronx_zzSplit.l0 (k + 1) (B (p ++ c :: r)) (B [c]) acc) (fun k => ?_) (Ev.bind hix ?_)
   ·cases hg : gronx_zzIndex.f k (B (p ++ c :: r)) (B [c]) with
    | none => simp only [gronx_zzSplit.l0, hg]; rfl
    | some t =>
     simp only [Option.bind_some]
     by_cases h : t = ((0 + p.length : Nat) : Int)
     ·rw [if_pos h]
      subst h
      simp only [gronx_zzSplit.l0, hg, Option.bind_some, B_size]
      rw [if_neg (by omega), if_pos (by omega), if_pos (by rw [hlen]; omega), if_pos (by omega), wrap64_id (by simp; omega) (by simp; omega), if_pos (by simp; omega), if_pos (by rw [hlen]; simp; omega)]
      congr 1
      ·rw [B_cut]
       congr 1
       simp only [Nat.zero_add, List.length_singleton]
       rw [show ((p.length : Int) + ((1 : Nat) : Int)).toNat = p.length + 1 by omega, List.drop_append, List.drop_eq_nil_of_le (by omega), show p.length + 1 - p.length = 1 by omega]
       simp only [List.nil_append, List.drop_succ_cons, List.drop_zero]
       exact List.take_of_length_le (by omega)
      ·rw [B_cut]
       congr 3
       simp
     ·rw [if_neg h]
   ·refine Ev.congr (f := fun k => gronx_zzSplit.l0 k (B r) (B [c]) (acc ++ [B p])) (fun k => by rw [if_pos rfl]) ?_
    simpa using hrec
  ·have hix := zzIndex_ev l [c] (by simp) (by omega) (by simp)
   rw [idxL_one_none c l hc] at hix
   rw [splitL_none c l hc]
   refine Ev.step (f := fun k => (gronx_zzIndex.f k (B l) (B [c])).bind fun t => if t < 0 then some (acc ++ [B l]) else gronx_zzSplit.l0 (k + 1) (B l) (B [c]) acc) (fun k => ?_) (Ev.bind hix (Ev.const (by simp)))
   cases hg : gronx_zzIndex.f k (B l) (B [c]) with
   | none => simp only [gronx_zzSplit.l0, hg]; rfl
   | some t =>
    simp only [Option.bind_some]
    by_cases h : t < 0
    ·rw [if_pos h]; simp only [gronx_zzSplit.l0, hg, Option.bind_some]; rw [if_pos h, if_pos (by omega)]
    ·rw [if_neg h]
theorem zzSplit_ev (c : UInt8) (l : List UInt8) (h : l.length < 8796093022208) : Ev (fun k => gronx_zzSplit.f k (B l) (B [c])) ((splitL c l).map B) := by
 have := zzSplit_from c l.length l [] (Nat.le_refl _) (by simpa using h)
 rw [List.nil_append] at this
 exact this
theorem zzReplace_no (l m q : List UInt8) (hm : m ≠ []) (hml : m.length < 4611686018427387904) (h : idxL m l 0 = -1) (hl : l.length < 140737488355328) :
  Ev (fun k => gronx_zzReplaceAll.f k (B l) (B m) (B q)) (B l) := by
 have hix := zzIndex_ev l m hm (by omega) hml
 rw [h] at hix
 unfold gronx_zzReplaceAll.f
 refine Ev.step (f := fun k => (gronx_zzIndex.f k (B l) (B m)).bind fun t => if t < 0 then some (B l) else gronx_zzReplaceAll.l0 (k + 1) (B l) (B m) (B q) []) (fun k => ?_) (Ev.bind hix (Ev.const (by simp)))
 cases hg : gronx_zzIndex.f k (B l) (B m) with
 | none => simp only [gronx_zzReplaceAll.l0, hg]; rfl
 | some t =>
  simp only [Option.bind_some]
  by_cases h : t < 0
  ·rw [if_pos h]; simp only [gronx_zzReplaceAll.l0, hg, Option.bind_some]; rw [if_pos h, if_pos (by simp [B_size]; omega), List.nil_append, B_bytesOf, strOfNums_B]
  ·rw [if_neg h]
theorem zzTrim_ev (l : List UInt8) (hl : l.length < 4611686018427387904) (hne : l ≠ []) (h0 : ∀ b, l.head? = some b → b ≠ 32 ∧ b ≠ 9) (h1 : ∀ b, l.getLast? = some b → b ≠ 32 ∧ b ≠ 9) :
  Ev (fun k => gronx_zzTrim.f k (B l)) (B l) := by
 have hpos : 0 < l.length := List.length_pos_iff.2 hne
 have hU : ∀ b : UInt8, b ≠ 32 → ¬ (b.toNat : Int) = 32 := fun b hb e => hb (UInt8.toNat_inj.1 (show b.toNat = 32 by omega))
 have hV : ∀ b : UInt8, b ≠ 9 → ¬ (b.toNat : Int) = 9 := fun b hb e => hb (UInt8.toNat_inj.1 (show b.toNat = 9 by omega))
 have e0 : bt (B l) 0 = ((l[0]'hpos).toNat : Int) := bt_B_at l 0 hpos
 have e1 : bt (B l) ((l.length : Int) - 1) = ((l[l.length - 1]'(by omega)).toNat : Int) := by
  have := bt_B_at l (l.length - 1) (by omega)
  rwa [show ((l.length - 1 : Nat) : Int) = (l.length : Int) - 1 by omega] at this
 have a0 := h0 (l[0]'hpos) (by rw [List.head?_eq_getElem?, List.getElem?_eq_getElem hpos])
 have a1 := h1 (l[l.length - 1]'(by omega)) (by rw [List.getLast?_eq_getElem?, List.getElem?_eq_getElem (by omega)])
 unfold gronx_zzTrim.f
 refine Ev.step (f := fun k => gronx_zzTrim.j1 k (B l)) (fun k => ?_) (Ev.step (f := fun k => gronx_zzTrim.l1 k (B l)) (fun k => by simp only [gronx_zzTrim.j1]) (Ev.done fun k => ?_))
 ·simp only [gronx_zzTrim.l0, B_size]
  rw [if_pos (by omega), if_pos (by omega), e0, if_neg (hU _ a0.1), if_neg (hV _ a0.2)]
 ·simp only [gronx_zzTrim.l1, B_size]
  rw [if_pos (by omega), wrap64_id (by omega) (by omega), if_pos (by omega), if_pos (by omega), e1, if_neg (hU _ a1.1), if_neg (hV _ a1.2)]
def noDbl : List UInt8 → Bool
 | a :: b :: t => !(a == 32 && b == 32) && noDbl (b :: t)
 | _ => true
theorem noDbl_idx (l : List UInt8) (h : noDbl l = true) (i : Nat) : idxL [32, 32] l i = -1 := by
 induction l generalizing i with
 | nil => rfl
 | cons a t ih =>
  unfold idxL
  cases t with
  | nil => rw [if_neg (by simp)]
  | cons b t =>
   simp only [noDbl, Bool.and_eq_true, Bool.not_eq_true', Bool.and_eq_false_iff] at h
   rw [if_pos (by simp), if_neg ?_, ih h.2]
   intro e
   simp at e
   rcases h.1 with h1 | h1
   ·simp [e.1] at h1
   ·simp [e.2] at h1
def plainB (b : UInt8) : Bool := b == 32 || (decide (33 ≤ b.toNat) && decide (b.toNat ≤ 63))
theorem noDbl_at (l : List UInt8) (h : noDbl l = true) (i : Nat) (h1 : i + 1 < l.length) (e : l[i]'(by omega) = 32) : l[i + 1] ≠ 32 := by
 induction l generalizing i with
 | nil => simp at h1
 | cons a t ih =>
  cases t with
  | nil => simp at h1
  | cons b t =>
   simp only [noDbl, Bool.and_eq_true, Bool.not_eq_true', Bool.and_eq_false_iff] at h
   cases i with
   | zero =>
    simp at e
    subst e
    intro e2
    simp at e2
    subst e2
    simp at h
   | succ i => exact ih h.2 i (by simpa using h1) (by simpa using e)
theorem zzSpaces_from (l : List UInt8) (hl : l.length < 140737488355328) (hd : noDbl l = true) (hp : ∀ b ∈ l, plainB b = true) :
  ∀ (d i : Nat), l.length - i = d → i ≤ l.length → ∀ (inn : Bool), (inn = true → ∃ h : 0 < i ∧ i ≤ l.length, l[i - 1]'(by omega) = 32) →
   Ev (fun k => gronx_zzSpaces.l0 k (B l) ((l.take i).map fun b => (b.toNat : Int)) inn (i : Int)) (B l) := by
 intro d
 induction d with
 | zero =>
  intro i hd' hi inn hin
  refine Ev.done fun k => ?_
  simp only [gronx_zzSpaces.l0, B_size]
  rw [if_neg (by omega), strOfNums_B, List.take_of_length_le (by omega)]
 | succ d ih =>
  intro i hd' hi inn hin
  have hlt : i < l.length := by omega
  have hb := hp _ (List.getElem_mem hlt)
  have hbt := bt_B_at l i hlt
  have htake : (l.take (i + 1)).map (fun b => (b.toNat : Int)) = (l.take i).map (fun b => (b.toNat : Int)) ++ [(l[i].toNat : Int)] := by
   rw [List.take_succ_eq_append_getElem hlt, List.map_append]; rfl
  by_cases hs : l[i] = 32
  ·have hin0 : inn = false := by
    cases inn with
    | false => rfl
    | true =>
     obtain ⟨hh, e⟩ := hin rfl
     have := noDbl_at l hd (i - 1) (by omega) e
     simp only [show i - 1 + 1 = i by omega] at this
     exact absurd hs this
   subst hin0
   refine Ev.step (f := fun k => gronx_zzSpaces.j1 k (B l) ((l.take i).map fun b => (b.toNat : Int)) false (i : Int) true) (fun k => ?_) ?_
   ·simp only [gronx_zzSpaces.l0, B_size]
    rw [if_pos (by omega), if_pos (by omega), hbt, hs, if_pos (by rfl)]
    rfl
   ·refine Ev.step (f := fun k => gronx_zzSpaces.l0 k (B l) ((l.take (i + 1)).map fun b => (b.toNat : Int)) true ((i + 1 : Nat) : Int)) (fun k => ?_) (ih (i + 1) (by omega) (by omega) true (fun _ => ⟨⟨by omega, by omega⟩, by simpa using hs⟩))
    simp only [gronx_zzSpaces.j1]
    rw [if_pos trivial, if_neg (by simp), if_pos (by simp; omega), wrap64_nat i (by omega), htake, hs]
    rfl
  ·have hge : 33 ≤ l[i].toNat ∧ l[i].toNat ≤ 63 := by
    simp only [plainB, Bool.or_eq_true, beq_iff_eq, Bool.and_eq_true, decide_eq_true_eq] at hb
    rcases hb with hb | hb
    ·exact absurd hb hs
    ·exact hb
   refine Ev.step (f := fun k => gronx_zzSpaces.j1 k (B l) ((l.take i).map fun b => (b.toNat : Int)) inn (i : Int) false) (fun k => ?_) ?_
   ·simp only [gronx_zzSpaces.l0, B_size]
    rw [if_pos (by omega), if_pos (by omega), hbt, if_neg (by omega), if_neg (by omega), if_neg (by omega), if_neg (by omega), show ((l[i].toNat : Int) == 13) = false by simp; omega]
   ·refine Ev.step (f := fun k => gronx_zzSpaces.l0 k (B l) ((l.take (i + 1)).map fun b => (b.toNat : Int)) false ((i + 1 : Nat) : Int)) (fun k => ?_) (ih (i + 1) (by omega) (by omega) false (by simp))
    simp only [gronx_zzSpaces.j1, B_size]
    rw [if_neg (by simp), if_pos (by omega), if_pos (by omega), if_pos (by simp; omega), wrap64_nat i (by omega), htake, hbt]
theorem zzSpaces_ev (l : List UInt8) (hl : l.length < 140737488355328) (hd : noDbl l = true) (hp : ∀ b ∈ l, plainB b = true) : Ev (fun k => gronx_zzSpaces.f k (B l)) (B l) := by
 have := zzSpaces_from l hl hd hp l.length 0 (by simp) (by omega) false (by simp)
 simpa [gronx_zzSpaces.f] using this
theorem literal_no (l : List UInt8) (h : ∀ b ∈ l, b.toNat ≤ 63) : gronx_literal.f (B l) = some (B []) := by
 have hne : ∀ (c d e : UInt8), 65 ≤ c.toNat → ¬ l = [c, d, e] := by
  intro c d e hc heq
  have := h c (by simp [heq])
  omega
 unfold gronx_literal.f
 simp only [B_list]
 repeat rw [if_neg (hne _ _ _ (by decide))]
 rfl
theorem zzLiterals_from (l : List UInt8) (hl : l.length < 140737488355328) (hp : ∀ b ∈ l, b.toNat ≤ 63) :
  ∀ (d i : Nat), l.length - i = d → i ≤ l.length → Ev (fun k => gronx_zzLiterals.l0 k (B l) ((l.take i).map fun b => (b.toNat : Int)) (i : Int)) (B l) := by
 intro d
 induction d with
 | zero =>
  intro i hd' hi
  refine Ev.done fun k => ?_
  simp only [gronx_zzLiterals.l0, B_size]
  rw [if_neg (by omega), strOfNums_B, List.take_of_length_le (by omega)]
 | succ d ih =>
  intro i hd' hi
  have hlt : i < l.length := by omega
  have hbt := bt_B_at l i hlt
  have htake : (l.take (i + 1)).map (fun b => (b.toNat : Int)) = (l.take i).map (fun b => (b.toNat : Int)) ++ [(l[i].toNat : Int)] := by
   rw [List.take_succ_eq_append_getElem hlt, List.map_append]; rfl
  refine Ev.step (f := fun k => gronx_zzLiterals.l0 k (B l) ((l.take (i + 1)).map fun b => (b.toNat : Int)) ((i + 1 : Nat) : Int)) (fun k => ?_) (ih (i + 1) (by omega) (by omega))
  simp only [gronx_zzLiterals.l0, B_size]
  rw [if_pos (by omega), wrap64_id (i := (i : Int) + 3) (by omega) (by omega)]
  by_cases h3 : i + 3 ≤ l.length
  ·rw [if_pos (by omega), if_pos (by omega), if_pos (by omega), B_cut, literal_no _ (fun b hb => hp b (List.mem_of_mem_drop (List.mem_of_mem_take hb)))]
   simp only [Option.bind_some]
   rw [B_list, if_pos rfl, if_pos (by simp; omega), wrap64_nat i (by omega), htake, hbt]
  ·rw [if_neg (by omega), if_pos (by omega), if_pos (by simp; omega), wrap64_nat i (by omega), htake, hbt]
theorem zzLiterals_ev (l : List UInt8) (hl : l.length < 140737488355328) (hp : ∀ b ∈ l, b.toNat ≤ 63) : Ev (fun k => gronx_zzLiterals.f k (B l)) (B l) := by
 have := zzLiterals_from l hl hp l.length 0 (by simp) (by omega)
 simpa [gronx_zzLiterals.f] using this
def hasYr : List UInt8 → Nat → Bool
 | [], _ => false
 | b :: t, n => if b.toNat < 48 ∨ 57 < b.toNat then hasYr t 0 else if n + 1 = 4 then true else hasYr t (n + 1)
theorem zzHasYear_from (l : List UInt8) (hl : l.length < 4611686018427387904) :
  ∀ (rest : List UInt8) (i n : Nat), l.drop i = rest → i ≤ l.length → n < 4 → Ev (fun k => gronx_zzHasYear.l0 k (B l) (n : Int) (i : Int)) (hasYr rest n) := by
 intro rest
 induction rest with
 | nil =>
  intro i n hi hil hn
  have hlen : l.length ≤ i := List.drop_eq_nil_iff.1 hi
  refine Ev.done fun k => ?_
  simp only [gronx_zzHasYear.l0, B_size]
  rw [if_neg (by omega)]
  rfl
 | cons b t ih =>
  intro i n hi hil hn
  have hlt : i < l.length := by
   rcases Nat.lt_or_ge i l.length with h | h
   ·exact h
   ·rw [List.drop_eq_nil_of_le h] at hi; cases hi
  have hbi : l[i] = b := by
   have := List.drop_eq_getElem_cons hlt
   rw [hi] at this
   exact (List.cons.inj this).1.symm
  have ht : l.drop (i + 1) = t := by rw [← List.drop_drop, hi]; rfl
  have hbt := bt_B_at l i hlt
  rw [hbi] at hbt
  unfold hasYr
  by_cases h1 : b.toNat < 48 ∨ 57 < b.toNat
  ·rw [if_pos h1]
   refine Ev.step (f := fun k => gronx_zzHasYear.j1 k (B l) (n : Int) (i : Int) true) (fun k => ?_) (Ev.step (f := fun k => gronx_zzHasYear.l0 k (B l) ((0 : Nat) : Int) ((i + 1 : Nat) : Int)) (fun k => ?_) (ih (i + 1) 0 ht (by omega) (by omega)))
   ·simp only [gronx_zzHasYear.l0, B_size]
    rw [if_pos (by omega), if_pos (by omega), hbt]
    by_cases h2 : (b.toNat : Int) < 48
    ·rw [if_pos h2]
    ·rw [if_neg h2, show decide ((b.toNat : Int) > 57) = true from decide_eq_true (by omega)]
   ·simp only [gronx_zzHasYear.j1]
    rw [if_pos trivial, wrap64_nat i (by omega)]
    rfl
  ·rw [if_neg h1]
   by_cases h2 : n + 1 = 4
   ·rw [if_pos h2]
    refine Ev.step (f := fun k => gronx_zzHasYear.j1 k (B l) (n : Int) (i : Int) false) (fun k => ?_) (Ev.done fun k => ?_)
    ·simp only [gronx_zzHasYear.l0, B_size]
     rw [if_pos (by omega), if_pos (by omega), hbt, if_neg (by omega), show decide ((b.toNat : Int) > 57) = false from decide_eq_false (by omega)]
    ·simp only [gronx_zzHasYear.j1]
     rw [if_neg (by simp), wrap64_nat n (by omega), if_pos (by omega)]
   ·rw [if_neg h2]
    refine Ev.step (f := fun k => gronx_zzHasYear.j1 k (B l) (n : Int) (i : Int) false) (fun k => ?_) (Ev.step (f := fun k => gronx_zzHasYear.l0 k (B l) ((n + 1 : Nat) : Int) ((i + 1 : Nat) : Int)) (fun k => ?_) (ih (i + 1) (n + 1) ht (by omega) (by omega)))
    ·simp only [gronx_zzHasYear.l0, B_size]
     rw [if_pos (by omega), if_pos (by omega), hbt, if_neg (by omega), show decide ((b.toNat : Int) > 57) = false from decide_eq_false (by omega)]
    ·simp only [gronx_zzHasYear.j1]
     rw [if_neg (by simp), wrap64_nat n (by omega), if_neg (by omega), wrap64_nat i (by omega)]
theorem zzHasYear_ev (l : List UInt8) (hl : l.length < 4611686018427387904) : Ev (fun k => gronx_zzHasYear.f k (B l)) (hasYr l 0) := by
 have := zzHasYear_from l hl l 0 0 rfl (Nat.zero_le _) (by omega)
 simpa [gronx_zzHasYear.f] using this
theorem toLower_plain (l : List UInt8) (hl : l.length ≤ 140737488355328) (hp : ∀ b ∈ l, b.toNat ≤ 63) : strings_ToLower.f (B l) = some (B l) := by
 unfold strings_ToLower.f
 rw [B_size, if_pos hl, if_pos (by unfold isAscii; rw [B_data, List.all_eq_true]; intro b hb; exact decide_eq_true (by have := hp b hb; omega))]
 rw [B_data]
 have : Lib.toLowerA l = l := by
  unfold Lib.toLowerA
  conv => rhs; rw [← List.map_id l]
  apply List.map_congr_left
  intro b hb
  have h := hp b hb
  have hu : Lib.isUpperB b = false := by
   unfold Lib.isUpperB
   rw [Bool.and_eq_false_iff]
   exact Or.inl (decide_eq_false (by rw [UInt8.le_iff_toNat_le]; show ¬ 65 ≤ b.toNat; omega))
  simp [Lib.lowerB, hu]
 rw [this]
 rfl
theorem toUpper_plain (l : List UInt8) (hl : l.length ≤ 140737488355328) (hp : ∀ b ∈ l, b.toNat ≤ 63) : strings_ToUpper.f (B l) = some (B l) := by
 unfold strings_ToUpper.f
 rw [B_size, if_pos hl, if_pos (by unfold isAscii; rw [B_data, List.all_eq_true]; intro b hb; exact decide_eq_true (by have := hp b hb; omega))]
 rw [B_data]
 have : Lib.toUpperA l = l := by
  unfold Lib.toUpperA
  conv => rhs; rw [← List.map_id l]
  apply List.map_congr_left
  intro b hb
  have h := hp b hb
  have hu : Lib.isLowerB b = false := by
   unfold Lib.isLowerB
   rw [Bool.and_eq_false_iff]
   exact Or.inl (decide_eq_false (by rw [UInt8.le_iff_toNat_le]; show ¬ 97 ≤ b.toNat; omega))
  simp [Lib.upperB, hu]
 rw [this]
 rfl
theorem expression_no (l : List UInt8) (hp : ∀ b ∈ l, b.toNat ≤ 63) : gronx_expression.f (B l) = some (B [], false) := by
 have hne : ∀ (m : List UInt8), ¬ l = 64 :: m := by
  intro m e
  have := hp 64 (by simp [e])
  simp at this
 unfold gronx_expression.f
 simp only [B_list]
 repeat rw [if_neg (hne _)]
 rfl
end Go.Proofs.YtemgofomhjabpaaGreatDoor.Core
namespace Go.Proofs.YtemgofomhjabpaaGreatDoor.Core
open Go.RowKit Go.Proofs.YtemgofomhjabpaaGreatDoorW.PrintWords
abbrev It := S38
def lowI (i : Nat) : Int := if i = 3 then 1 else if i = 4 then 1 else 0
def highI (i : Nat) : Int := [59, 59, 23, 31, 12, 6].getD i 0
theorem low_some (i : Nat) : spec_Low.f (i : Int) = some (lowI i) := by
 unfold spec_Low.f lowI
 by_cases h : i = 3
 ·subst h; rfl
 ·by_cases h4 : i = 4
  ·subst h4; rfl
  ·rw [if_neg (by omega), if_neg (by omega), if_neg h, if_neg h4]
theorem high_some (i : Nat) (h : i < 6) : spec_High.f (i : Int) = some (highI i) := by
 unfold spec_High.f highI
 rw [if_pos (by omega), if_pos (by omega), rd_at]
theorem highI_le (i : Nat) : highI i ≤ 59 := by
 unfold highI
 match i with
 | 0 | 1 | 2 | 3 | 4 | 5 => decide
 | n + 6 => simp
theorem lowI_ge (i : Nat) : 0 ≤ lowI i := by
 unfold lowI
 split
 ·omega
 ·split <;> omega
def goodItem (i : Nat) (x : It) : Bool := decide (1 ≤ x.f3) && decide (x.f3 ≤ 60) && (x.f0 || (decide (lowI i ≤ x.f1) && decide (x.f2 ≤ highI i) && decide (x.f1 ≤ x.f2)))
def goodF (i : Nat) (l : List It) : Bool := l.all (goodItem i) && decide (1 ≤ l.length) && decide (l.length ≤ 6)
theorem rdI_at (l : List It) (j : Nat) (h : j < l.length) : rd_T38 l (j : Int) = l[j] := by
 simp [rd_T38, h]
theorem good_from (i : Nat) (hi : i < 6) (l : List It) (hl : l.length < 4611686018427387904) :
  ∀ (rest : List It) (j : Nat), l.drop j = rest → j ≤ l.length →
   Ev (fun k => spec_Good.l0 k (i : Int) l l (l.length : Int) (j : Int)) (rest.all (goodItem i) && decide (1 ≤ l.length) && decide (l.length ≤ 6)) := by
 intro rest
 induction rest with
 | nil =>
  intro j hj hjl
  have hlen : l.length ≤ j := List.drop_eq_nil_iff.1 hj
  refine Ev.done fun k => ?_
  simp only [spec_Good.l0]
  rw [if_neg (by omega)]
  by_cases h1 : 1 ≤ l.length
  ·rw [if_pos (by omega)]
   simp [h1]
   omega
  ·rw [if_neg (by omega)]
   simp [h1]
 | cons x t ih =>
  intro j hj hjl
  have hlt : j < l.length := by
   rcases Nat.lt_or_ge j l.length with h | h
   ·exact h
   ·rw [List.drop_eq_nil_of_le h] at hj; cases hj
  have hx : l[j] = x := by
   have := List.drop_eq_getElem_cons hlt
   rw [hj] at this
   exact (List.cons.inj this).1.symm
  have ht : l.drop (j + 1) = t := by rw [← List.drop_drop, hj]; rfl
  have hrd := rdI_at l j hlt
  rw [hx] at hrd
  have hrec := ih (j + 1) ht (by omega)
  by_cases hs : x.f3 < 1 ∨ 60 < x.f3
  ·refine Ev.step (f := fun k => spec_Good.j1 k (i : Int) l l (l.length : Int) (j : Int) true x.f0 x.f1 x.f2 x.f3) (fun k => ?_) (Ev.done fun k => ?_)
   ·simp only [spec_Good.l0, hrd]
    rw [if_pos (by omega), if_pos (by omega), if_pos (by omega)]
    by_cases h1 : x.f3 < 1
    ·rw [if_pos h1]
    ·rw [if_neg h1, show decide (x.f3 > 60) = true from decide_eq_true (by omega)]
   ·simp only [spec_Good.j1]
    rw [if_pos trivial]
    have : goodItem i x = false := by
     unfold goodItem
     rcases hs with h | h
     ·rw [show decide (1 ≤ x.f3) = false from decide_eq_false (by omega)]; rfl
     ·rw [show decide (x.f3 ≤ 60) = false from decide_eq_false (by omega)]; simp
    simp [this]
  ·refine Ev.step (f := fun k => spec_Good.j1 k (i : Int) l l (l.length : Int) (j : Int) false x.f0 x.f1 x.f2 x.f3) (fun k => ?_) ?_
   ·simp only [spec_Good.l0, hrd]
    rw [if_pos (by omega), if_pos (by omega), if_pos (by omega), if_neg (by omega), show decide (x.f3 > 60) = false from decide_eq_false (by omega)]
   ·have h1 : decide (1 ≤ x.f3) = true := decide_eq_true (by omega)
    have h2 : decide (x.f3 ≤ 60) = true := decide_eq_true (by omega)
    have hgo : ∀ b : Bool, goodItem i x = true → Ev (fun k => spec_Good.l0 k (i : Int) l l (l.length : Int) ((j + 1 : Nat) : Int)) ((x :: t).all (goodItem i) && decide (1 ≤ l.length) && decide (l.length ≤ 6)) := by
     intro _ hg
     rw [List.all_cons, hg, Bool.true_and]
     exact hrec
    by_cases h0 : x.f0 = true
    ·refine Ev.step (f := fun k => spec_Good.l0 k (i : Int) l l (l.length : Int) ((j + 1 : Nat) : Int)) (fun k => ?_) (hgo true (by simp [goodItem, h1, h2, h0]))
     simp only [spec_Good.j1]
     rw [if_neg (by simp), if_pos h0, wrap64_nat j (by omega)]
    ·by_cases g1 : x.f1 < lowI i
     ·refine Ev.done fun k => ?_
      simp only [spec_Good.j1, low_some, Option.bind_some]
      rw [if_neg (by simp), if_neg h0, if_pos g1]
      have : goodItem i x = false := by simp [goodItem, h1, h2, h0]; omega
      simp [this]
     ·by_cases g2 : x.f2 > highI i
      ·refine Ev.done fun k => ?_
       simp only [spec_Good.j1, low_some, high_some i hi, Option.bind_some]
       rw [if_neg (by simp), if_neg h0, if_neg g1, if_pos g2]
       have : goodItem i x = false := by simp [goodItem, h1, h2, h0]; omega
       simp [this]
      ·by_cases g3 : x.f1 > x.f2
       ·refine Ev.done fun k => ?_
        simp only [spec_Good.j1, low_some, high_some i hi, Option.bind_some]
        rw [if_neg (by simp), if_neg h0, if_neg g1, if_neg g2, if_pos g3]
        have : goodItem i x = false := by simp [goodItem, h1, h2, h0]; omega
        simp [this]
       ·refine Ev.step (f := fun k => spec_Good.l0 k (i : Int) l l (l.length : Int) ((j + 1 : Nat) : Int)) (fun k => ?_) (hgo true (by simp [goodItem, h1, h2, h0]; omega))
        simp only [spec_Good.j1, low_some, high_some i hi, Option.bind_some]
        rw [if_neg (by simp), if_neg h0, if_neg g1, if_neg g2, if_neg g3, wrap64_nat j (by omega)]
theorem good_ev (i : Nat) (hi : i < 6) (l : List It) (hl : l.length < 4611686018427387904) : Ev (fun k => spec_Good.f k (i : Int) l) (goodF i l) :=
 good_from i hi l hl l 0 rfl (Nat.zero_le _)
def starF (l : List It) : Bool := match l with | [x] => x.f0 && x.f3 == 1 | _ => false
theorem star_some (l : List It) : spec_Star.f l = some (starF l) := by
 unfold spec_Star.f starF
 match l with
 | [] => rfl
 | [x] =>
  rw [if_pos (by simp), if_pos (by simp)]
  have : rd_T38 [x] 0 = x := rfl
  rw [this]
  by_cases h : x.f0 = true
  ·rw [if_pos h]; simp [h]
  ·rw [if_neg h]; simp [h]
 | x :: y :: t => rw [if_neg (by simp; omega)]
def zeroF (l : List It) : Bool := match l with | [x] => !x.f0 && x.f1 == 0 && x.f2 == 0 && x.f3 == 1 | _ => false
def restE (f0 f3 f4 f5 : List It) (secs : Bool) : Bool := (secs || zeroF f0) && (starF f3 || starF f5) && (starF f4 || f3.all fun x => x.f0 || decide (x.f1 ≤ 28))
def goodE (Fs : List (List It)) (secs : Bool) : Bool := match Fs with
 | [f0, f1, f2, f3, f4, f5] => goodF 0 f0 && (goodF 1 f1 && (goodF 2 f2 && (goodF 3 f3 && (goodF 4 f4 && (goodF 5 f5 && restE f0 f3 f4 f5 secs)))))
 | _ => false
theorem exprGood_l1 (l : List It) (hl : l.length < 4611686018427387904) :
  ∀ (rest : List It) (j : Nat), l.drop j = rest → j ≤ l.length → Ev (fun k => spec_ExprGood.l1 k l (l.length : Int) (j : Int)) (rest.all fun x => x.f0 || decide (x.f1 ≤ 28)) := by
 intro rest
 induction rest with
 | nil =>
  intro j hj hjl
  have hlen : l.length ≤ j := List.drop_eq_nil_iff.1 hj
  refine Ev.done fun k => ?_
  simp only [spec_ExprGood.l1]
  rw [if_neg (by omega)]
  rfl
 | cons x t ih =>
  intro j hj hjl
  have hlt : j < l.length := by
   rcases Nat.lt_or_ge j l.length with h | h
   ·exact h
   ·rw [List.drop_eq_nil_of_le h] at hj; cases hj
  have hx : l[j] = x := by
   have := List.drop_eq_getElem_cons hlt
   rw [hj] at this
   exact (List.cons.inj this).1.symm
  have ht : l.drop (j + 1) = t := by rw [← List.drop_drop, hj]; rfl
  have hrd := rdI_at l j hlt
  rw [hx] at hrd
  have hrec := ih (j + 1) ht (by omega)
  rw [List.all_cons]
  by_cases h0 : x.f0 = true
  ·rw [h0, Bool.true_or, Bool.true_and]
   refine Ev.step (f := fun k => spec_ExprGood.l1 k l (l.length : Int) ((j + 1 : Nat) : Int)) (fun k => ?_) hrec
   simp only [spec_ExprGood.l1, hrd]
   rw [if_pos (by omega), if_pos (by omega), if_pos (by omega), if_pos h0, wrap64_nat j (by omega)]
  ·rw [show x.f0 = false from by simpa using h0, Bool.false_or]
   by_cases h1 : x.f1 > 28
   ·rw [show decide (x.f1 ≤ 28) = false from decide_eq_false (by omega), Bool.false_and]
    refine Ev.done fun k => ?_
    simp only [spec_ExprGood.l1, hrd]
    rw [if_pos (by omega), if_pos (by omega), if_pos (by omega), if_neg h0, if_pos h1]
   ·rw [show decide (x.f1 ≤ 28) = true from decide_eq_true (by omega), Bool.true_and]
    refine Ev.step (f := fun k => spec_ExprGood.l1 k l (l.length : Int) ((j + 1 : Nat) : Int)) (fun k => ?_) hrec
    simp only [spec_ExprGood.l1, hrd]
    rw [if_pos (by omega), if_pos (by omega), if_pos (by omega), if_neg h0, if_neg h1, wrap64_nat j (by omega)]
section
variable (f0 f1 f2 f3 f4 f5 : List It) (secs : Bool)
theorem exprGood_j2 (h3 : f3.length < 4611686018427387904) (b : Bool) :
  Ev (fun k => spec_ExprGood.j2 k b [f0, f1, f2, f3, f4, f5] secs) (!b && (starF f4 || f3.all fun x => x.f0 || decide (x.f1 ≤ 28))) := by
 have e4 : rd_L5 [f0, f1, f2, f3, f4, f5] 4 = f4 := rfl
 have e3 : rd_L5 [f0, f1, f2, f3, f4, f5] 3 = f3 := rfl
 cases b with
 | true =>
  refine Ev.done fun k => ?_
  simp only [spec_ExprGood.j2]
  rw [if_pos trivial]
  rfl
 | false =>
  cases h : starF f4 with
  | true =>
   refine Ev.done fun k => ?_
   simp only [spec_ExprGood.j2, e4, star_some, Option.bind_some, h]
   rw [if_neg (by simp), if_pos (by simp), if_pos trivial]
   rfl
  | false =>
   refine Ev.step (f := fun k => spec_ExprGood.l1 k f3 (f3.length : Int) ((0 : Nat) : Int)) (fun k => ?_) (Ev.eq _ (exprGood_l1 f3 h3 f3 0 rfl (Nat.zero_le _)) (by simp))
   simp only [spec_ExprGood.j2, e4, e3, star_some, Option.bind_some, h]
   rw [if_neg (by simp), if_pos (by simp), if_neg (by simp), if_pos (by simp)]
   rfl
theorem exprGood_j1 (h3 : f3.length < 4611686018427387904) (b : Bool) :
  Ev (fun k => spec_ExprGood.j1 k b [f0, f1, f2, f3, f4, f5] secs) (!b && (starF f3 || starF f5) && (starF f4 || f3.all fun x => x.f0 || decide (x.f1 ≤ 28))) := by
 have e3 : rd_L5 [f0, f1, f2, f3, f4, f5] 3 = f3 := rfl
 have e5 : rd_L5 [f0, f1, f2, f3, f4, f5] 5 = f5 := rfl
 cases b with
 | true =>
  refine Ev.done fun k => ?_
  simp only [spec_ExprGood.j1]
  rw [if_pos trivial]
  rfl
 | false =>
  cases h : starF f3 with
  | true =>
   refine Ev.step (f := fun k => spec_ExprGood.j2 k false [f0, f1, f2, f3, f4, f5] secs) (fun k => ?_) (exprGood_j2 f0 f1 f2 f3 f4 f5 secs h3 false)
   simp only [spec_ExprGood.j1, e3, star_some, Option.bind_some, h]
   rw [if_neg (by simp), if_pos (by simp), if_pos trivial]
  | false =>
   refine Ev.step (f := fun k => spec_ExprGood.j2 k (!starF f5) [f0, f1, f2, f3, f4, f5] secs) (fun k => ?_) (Ev.eq _ (exprGood_j2 f0 f1 f2 f3 f4 f5 secs h3 (!starF f5)) (by simp))
   simp only [spec_ExprGood.j1, e3, e5, star_some, Option.bind_some, h]
   rw [if_neg (by simp), if_pos (by simp), if_neg (by simp), if_pos (by simp)]
theorem exprGood_rest (h3 : f3.length < 4611686018427387904) :
  Ev (fun k => spec_ExprGood.l0 k [f0, f1, f2, f3, f4, f5] 6 6 [f0, f1, f2, f3, f4, f5] secs) (restE f0 f3 f4 f5 secs) := by
 have e0 : rd_L5 [f0, f1, f2, f3, f4, f5] 0 = f0 := rfl
 unfold restE
 cases secs with
 | true =>
  refine Ev.step (f := fun k => spec_ExprGood.j1 k false [f0, f1, f2, f3, f4, f5] true) (fun k => ?_) (exprGood_j1 f0 f1 f2 f3 f4 f5 true h3 false)
  simp only [spec_ExprGood.l0]
  rw [if_neg (by simp), if_pos trivial]
 | false =>
  refine Ev.step (f := fun k => spec_ExprGood.j1 k (!zeroF f0) [f0, f1, f2, f3, f4, f5] false) (fun k => ?_) (Ev.eq _ (exprGood_j1 f0 f1 f2 f3 f4 f5 false h3 (!zeroF f0)) (by simp))
  simp only [spec_ExprGood.l0, e0]
  rw [if_neg (by simp), if_neg (by simp), if_pos (by simp)]
  match f0 with
  | [] => rfl
  | [x] =>
   rw [if_pos (by simp), if_pos (by simp)]
   have : rd_T38 [x] 0 = x := rfl
   rw [this]
   congr 1
   simp [zeroF, Bool.not_and, Bool.or_assoc]
  | x :: y :: t => rw [if_neg (by simp; omega)]; rfl
theorem exprGood_six (h : ∀ l ∈ [f0, f1, f2, f3, f4, f5], l.length < 4611686018427387904) : Ev (fun k => spec_ExprGood.f k [f0, f1, f2, f3, f4, f5] secs) (goodE [f0, f1, f2, f3, f4, f5] secs) := by
 have step : ∀ (j : Nat) (l : List It) (b : Bool), j < 6 → l.length < 4611686018427387904 → rd_L5 [f0, f1, f2, f3, f4, f5] (j : Int) = l →
   Ev (fun k => spec_ExprGood.l0 k [f0, f1, f2, f3, f4, f5] 6 ((j + 1 : Nat) : Int) [f0, f1, f2, f3, f4, f5] secs) b →
   Ev (fun k => spec_ExprGood.l0 k [f0, f1, f2, f3, f4, f5] 6 (j : Int) [f0, f1, f2, f3, f4, f5] secs) (goodF j l && b) := by
  intro j l b hj hl hrd hrec
  refine Ev.step (f := fun k => (spec_Good.f k (j : Int) l).bind fun t => if t = true then spec_ExprGood.l0 k [f0, f1, f2, f3, f4, f5] 6 ((j + 1 : Nat) : Int) [f0, f1, f2, f3, f4, f5] secs else some false) (fun k => ?_) (Ev.bind (good_ev j hj l hl) ?_)
  ·simp only [spec_ExprGood.l0, hrd]
   rw [if_pos (by omega), if_pos (by omega), if_pos (by simp; omega), wrap64_nat j (by omega)]
  ·cases goodF j l with
   | true => exact Ev.congr (f := fun k => spec_ExprGood.l0 k [f0, f1, f2, f3, f4, f5] 6 ((j + 1 : Nat) : Int) [f0, f1, f2, f3, f4, f5] secs) (fun k => if_pos rfl) (by simpa using hrec)
   | false => exact Ev.const (by simp)
 unfold goodE
 refine Ev.congr (f := fun k => spec_ExprGood.l0 k [f0, f1, f2, f3, f4, f5] 6 ((0 : Nat) : Int) [f0, f1, f2, f3, f4, f5] secs) (fun k => by unfold spec_ExprGood.f; rw [if_pos (by simp)]; rfl) ?_
 exact step 0 f0 _ (by omega) (h _ (by simp)) rfl (step 1 f1 _ (by omega) (h _ (by simp)) rfl (step 2 f2 _ (by omega) (h _ (by simp)) rfl (step 3 f3 _ (by omega) (h _ (by simp)) rfl (step 4 f4 _ (by omega) (h _ (by simp)) rfl (step 5 f5 _ (by omega) (h _ (by simp)) rfl
  (exprGood_rest f0 f1 f2 f3 f4 f5 secs (h _ (by simp))))))))
end
theorem exprGood_ev (Fs : List (List It)) (secs : Bool) (h : ∀ l ∈ Fs, l.length < 4611686018427387904) : Ev (fun k => spec_ExprGood.f k Fs secs) (goodE Fs secs) := by
 by_cases h6 : Fs.length = 6
 ·match Fs, h6 with
  | [f0, f1, f2, f3, f4, f5], _ => exact exprGood_six f0 f1 f2 f3 f4 f5 secs h
 ·have : goodE Fs secs = false := by
   match Fs with
   | [] | [_] | [_, _] | [_, _, _] | [_, _, _, _] | [_, _, _, _, _] => rfl
   | [_, _, _, _, _, _] => simp at h6
   | _ :: _ :: _ :: _ :: _ :: _ :: _ :: _ => rfl
  rw [this]
  exact Ev.congr (f := fun _ => some false) (fun k => by unfold spec_ExprGood.f; rw [if_neg (by omega)]) (Ev.const rfl)
end Go.Proofs.YtemgofomhjabpaaGreatDoor.Core
namespace Go.Proofs.YtemgofomhjabpaaGreatDoor.Core
open Go.RowKit Go.Proofs.YtemgofomhjabpaaGreatDoorW.PrintWords
def digits10 : List UInt8 := [48, 49, 50, 51, 52, 53, 54, 55, 56, 57]
theorem digit_cut (n : Nat) (h : n < 10) : (B digits10).extract n (n + 1) = B [UInt8.ofNat (48 + n)] := by
 rw [B_cut]
 have : ∀ n, n < 10 → (digits10.drop n).take (n + 1 - n) = [UInt8.ofNat (48 + n)] := by decide
 rw [this n h]
theorem decimal_ev (m : Nat) : ∀ n : Nat, n < 10 ^ (m + 1) → m < 17 → Ev (fun k => spec_Decimal.f k (n : Int)) (B (decN n)) := by
 have base : ∀ n : Nat, n < 10 → Ev (fun k => spec_Decimal.f k (n : Int)) (B (decN n)) := by
  intro n h
  refine Ev.done fun k => ?_
  simp only [spec_Decimal.f]
  rw [if_pos (by omega), if_pos (by omega), wrap64_id (by omega) (by omega), if_pos (by omega), if_pos (by omega), decN_lt n h]
  have := digit_cut n h
  rw [show ((n : Int)).toNat = n by omega, show ((n : Int) + 1).toNat = n + 1 by omega]
  exact congrArg some this
 induction m with
 | zero => intro n h _; exact base n (by simpa using h)
 | succ m ih =>
  intro n h hm
  by_cases h10 : n < 10
  ·exact base n h10
  ·have hq : n / 10 < 10 ^ (m + 1) := by rw [Nat.div_lt_iff_lt_mul (by omega)]; rw [Nat.pow_succ] at h; exact h
   have hn : n < 10 ^ 18 := Nat.lt_of_lt_of_le h (Nat.pow_le_pow_right (by omega) (by omega))
   have hn' : n < 1000000000000000000 := by simpa using hn
   have e1 : wrap64 (Int.tdiv (n : Int) 10) = ((n / 10 : Nat) : Int) := by
    rw [Int.tdiv_eq_ediv_of_nonneg (by omega), wrap64_id (by omega) (by omega)]; rfl
   have e2 : Int.tmod (n : Int) 10 = ((n % 10 : Nat) : Int) := by rw [Int.tmod_eq_emod_of_nonneg (by omega)]; rfl
   have l1 := decN_length (n / 10) m hq
   refine Ev.step (f := fun k => (spec_Decimal.f k ((n / 10 : Nat) : Int)).bind fun t => (spec_Decimal.f k ((n % 10 : Nat) : Int)).bind fun u => if t.size + u.size ≤ 9223372036854775807 then some (t ++ u) else none) (fun k => ?_) (Ev.bind (ih (n / 10) hq (by omega)) (Ev.bind (base (n % 10) (by omega)) (Ev.const ?_)))
   ·simp only [spec_Decimal.f]
    rw [if_neg (by omega), e1, e2]
   ·rw [B_size, B_size, decN_lt (n % 10) (by omega), if_pos (by simp; omega), B_app, decN_ge n h10]
theorem dec_ev (n : Int) (h0 : 0 ≤ n) (h : n < 100000) : Ev (fun k => spec_Decimal.f k n) (B (decN n.toNat)) := by
 have := decimal_ev 4 n.toNat (by simp; omega) (by omega)
 rwa [show ((n.toNat : Nat) : Int) = n by omega] at this
theorem decN_two (n : Nat) (h : n < 100) : (decN n).length ≤ 2 := decN_length n 1 (by simpa using h)
def stepL (s : Int) : List UInt8 := if 1 < s then 47 :: decN s.toNat else []
def itemL (x : It) : List UInt8 := if x.f0 then 42 :: stepL x.f3 else decN x.f1.toNat ++ ((if x.f1 < x.f2 ∨ 1 < x.f3 then 45 :: decN x.f2.toNat else []) ++ stepL x.f3)
theorem goodItem_spec {i : Nat} {x : It} (h : goodItem i x = true) : 1 ≤ x.f3 ∧ x.f3 ≤ 60 ∧ (x.f0 = false → 0 ≤ x.f1 ∧ x.f2 ≤ 59 ∧ x.f1 ≤ x.f2 ∧ lowI i ≤ x.f1 ∧ x.f2 ≤ highI i) := by
 unfold goodItem at h
 simp only [Bool.and_eq_true, decide_eq_true_eq, Bool.or_eq_true] at h
 refine ⟨h.1.1, h.1.2, fun h0 => ?_⟩
 have hl := lowI_ge i
 have hh := highI_le i
 rcases h.2 with h2 | h2
 ·rw [h0] at h2; cases h2
 ·exact ⟨by omega, by omega, h2.2, h2.1.1, h2.1.2⟩
theorem stepL_length (s : Int) (h : s ≤ 60) : (stepL s).length ≤ 3 := by
 unfold stepL
 split
 ·have := decN_two s.toNat (by omega); simp; omega
 ·simp
theorem item_ev {i : Nat} {x : It} (h : goodItem i x = true) : Ev (fun k => spec_ItemText.f k x.f0 x.f1 x.f2 x.f3) (B (itemL x)) := by
 obtain ⟨s1, s2, hr⟩ := goodItem_spec h
 have hst : ∀ (p : List UInt8), p.length ≤ 10 → ∀ f : Bool, Ev (fun k => if x.f3 > 1 then ((spec_Decimal.f k x.f3).bind fun t => (if 1 + t.size ≤ 9223372036854775807 then (if (B p).size + ((⟨#[47]⟩ : ByteArray) ++ t).size ≤ 9223372036854775807 then (some (B p ++ ((⟨#[47]⟩ : ByteArray) ++ t))) else (none)) else (none))) else some (B p)) (B (p ++ stepL x.f3)) := by
  intro p hp _
  unfold stepL
  by_cases h3 : 1 < x.f3
  ·rw [if_pos h3]
   refine Ev.congr (f := fun k => (spec_Decimal.f k x.f3).bind fun t => (if 1 + t.size ≤ 9223372036854775807 then (if (B p).size + ((⟨#[47]⟩ : ByteArray) ++ t).size ≤ 9223372036854775807 then (some (B p ++ ((⟨#[47]⟩ : ByteArray) ++ t))) else (none)) else (none))) (fun k => if_pos h3) (Ev.bind (dec_ev x.f3 (by omega) (by omega)) (Ev.const ?_))
   have := decN_two x.f3.toNat (by omega)
   rw [show (⟨#[47]⟩ : ByteArray) = B [47] from rfl, B_app, B_size, B_size, B_size, if_pos (by omega), if_pos (by simp; omega), B_app]
   rfl
  ·rw [if_neg h3]
   exact Ev.congr (f := fun _ => some (B p)) (fun k => if_neg (by omega)) (Ev.const (by simp))
 unfold itemL
 cases h0 : x.f0 with
 | true =>
  rw [if_pos rfl]
  refine Ev.congr (f := fun k => if x.f3 > 1 then ((spec_Decimal.f k x.f3).bind fun t => (if 1 + t.size ≤ 9223372036854775807 then (if (B [42]).size + ((⟨#[47]⟩ : ByteArray) ++ t).size ≤ 9223372036854775807 then (some (B [42] ++ ((⟨#[47]⟩ : ByteArray) ++ t))) else (none)) else (none))) else some (B [42])) (fun k => ?_) (hst [42] (by simp) true)
  unfold spec_ItemText.f
  rw [if_pos rfl]
  rfl
 | false =>
  obtain ⟨r1, r2, r3, _, _⟩ := hr h0
  rw [if_neg (by simp)]
  have l1 := decN_two x.f1.toNat (by omega)
  have l2 := decN_two x.f2.toNat (by omega)
  have hj : ∀ b : Bool, b = decide (x.f1 < x.f2 ∨ 1 < x.f3) → Ev (fun k => spec_ItemText.j0 k (B (decN x.f1.toNat)) b false x.f1 x.f2 x.f3) (B (decN x.f1.toNat ++ ((if x.f1 < x.f2 ∨ 1 < x.f3 then 45 :: decN x.f2.toNat else []) ++ stepL x.f3))) := by
   intro b hb
   by_cases hc : x.f1 < x.f2 ∨ 1 < x.f3
   ·rw [decide_eq_true hc] at hb
    subst hb
    rw [if_pos hc]
    refine Ev.step (f := fun k => (spec_Decimal.f k x.f2).bind fun t => if t = B (decN x.f2.toNat) then (if x.f3 > 1 then ((spec_Decimal.f k x.f3).bind fun t => (if 1 + t.size ≤ 9223372036854775807 then (if (B (decN x.f1.toNat ++ 45 :: decN x.f2.toNat)).size + ((⟨#[47]⟩ : ByteArray) ++ t).size ≤ 9223372036854775807 then (some (B (decN x.f1.toNat ++ 45 :: decN x.f2.toNat) ++ ((⟨#[47]⟩ : ByteArray) ++ t))) else (none)) else (none))) else some (B (decN x.f1.toNat ++ 45 :: decN x.f2.toNat))) else spec_ItemText.j0 (k + 1) (B (decN x.f1.toNat)) true false x.f1 x.f2 x.f3) (fun k => ?_) (Ev.bind (dec_ev x.f2 (by omega) (by omega)) ?_)
    ·cases hg : spec_Decimal.f k x.f2 with
     | none => simp only [spec_ItemText.j0, hg]; rw [if_pos trivial]; rfl
     | some t =>
      simp only [Option.bind_some]
      by_cases ht : t = B (decN x.f2.toNat)
      ·rw [if_pos ht]
       subst ht
       simp only [spec_ItemText.j0, hg, Option.bind_some]
       rw [if_pos trivial, show (⟨#[45]⟩ : ByteArray) = B [45] from rfl, B_app, if_pos (by rw [B_size]; omega), if_pos (by rw [B_size, B_size]; simp; omega), B_app]
       rfl
      ·rw [if_neg ht]
    ·refine Ev.congr (f := fun k => if x.f3 > 1 then ((spec_Decimal.f k x.f3).bind fun t => (if 1 + t.size ≤ 9223372036854775807 then (if (B (decN x.f1.toNat ++ 45 :: decN x.f2.toNat)).size + ((⟨#[47]⟩ : ByteArray) ++ t).size ≤ 9223372036854775807 then (some (B (decN x.f1.toNat ++ 45 :: decN x.f2.toNat) ++ ((⟨#[47]⟩ : ByteArray) ++ t))) else (none)) else (none))) else some (B (decN x.f1.toNat ++ 45 :: decN x.f2.toNat))) (fun k => if_pos rfl) ?_
     have := hst (decN x.f1.toNat ++ 45 :: decN x.f2.toNat) (by simp; omega) true
     rwa [List.append_assoc] at this
   ·rw [decide_eq_false hc] at hb
    subst hb
    rw [if_neg hc]
    refine Ev.step (f := fun k => if x.f3 > 1 then ((spec_Decimal.f k x.f3).bind fun t => (if 1 + t.size ≤ 9223372036854775807 then (if (B (decN x.f1.toNat)).size + ((⟨#[47]⟩ : ByteArray) ++ t).size ≤ 9223372036854775807 then (some (B (decN x.f1.toNat) ++ ((⟨#[47]⟩ : ByteArray) ++ t))) else (none)) else (none))) else some (B (decN x.f1.toNat))) (fun k => ?_) (hst (decN x.f1.toNat) (by omega) true)
    simp only [spec_ItemText.j0]
    rw [if_neg (by simp)]
  refine Ev.congr (f := fun k => (spec_Decimal.f k x.f1).bind fun t => if x.f2 > x.f1 then spec_ItemText.j0 k t true false x.f1 x.f2 x.f3 else spec_ItemText.j0 k t (decide (x.f3 > 1)) false x.f1 x.f2 x.f3) (fun k => ?_) (Ev.bind (dec_ev x.f1 (by omega) (by omega)) ?_)
  ·unfold spec_ItemText.f
   rw [if_neg (by simp)]
  ·by_cases h12 : x.f1 < x.f2
   ·exact Ev.congr (f := fun k => spec_ItemText.j0 k (B (decN x.f1.toNat)) true false x.f1 x.f2 x.f3) (fun k => if_pos h12) (hj true (by simp [h12]))
   ·exact Ev.congr (f := fun k => spec_ItemText.j0 k (B (decN x.f1.toNat)) (decide (x.f3 > 1)) false x.f1 x.f2 x.f3) (fun k => if_neg h12) (hj _ (by simp [h12]))
theorem itemL_length {i : Nat} {x : It} (h : goodItem i x = true) : (itemL x).length ≤ 8 := by
 obtain ⟨s1, s2, hr⟩ := goodItem_spec h
 have hs := stepL_length x.f3 s2
 unfold itemL
 cases h0 : x.f0 with
 | true => simp; omega
 | false =>
  obtain ⟨r1, r2, r3, _, _⟩ := hr h0
  have l1 := decN_two x.f1.toNat (by omega)
  have l2 := decN_two x.f2.toNat (by omega)
  simp
  split <;> simp <;> omega
def joinL (c : UInt8) : List (List UInt8) → List UInt8
 | [] => []
 | [x] => x
 | x :: y :: t => x ++ c :: joinL c (y :: t)
theorem joinL_snoc (c : UInt8) (l : List (List UInt8)) (x : List UInt8) (h : l ≠ []) : joinL c (l ++ [x]) = joinL c l ++ c :: x := by
 induction l with
 | nil => exact absurd rfl h
 | cons a t ih =>
  cases t with
  | nil => rfl
  | cons b t =>
   rw [List.cons_append, List.cons_append, joinL, ← List.cons_append, ih (by simp), joinL]
   simp
theorem joinL_length (c : UInt8) (l : List (List UInt8)) (m : Nat) (h : ∀ x ∈ l, x.length ≤ m) : (joinL c l).length ≤ l.length * (m + 1) := by
 induction l with
 | nil => simp [joinL]
 | cons a t ih =>
  have ha := h a (by simp)
  cases t with
  | nil => simp [joinL]; omega
  | cons b t =>
   have := ih (fun x hx => h x (by simp [hx]))
   rw [joinL, List.length_append, List.length_cons, List.length_cons, Nat.succ_mul]
   omega
def fieldL (l : List It) : List UInt8 := joinL 44 (l.map itemL)
theorem goodF_spec {i : Nat} {l : List It} (h : goodF i l = true) : (∀ x ∈ l, goodItem i x = true) ∧ 1 ≤ l.length ∧ l.length ≤ 6 := by
 unfold goodF at h
 simp only [Bool.and_eq_true, decide_eq_true_eq, List.all_eq_true] at h
 exact ⟨h.1.1, h.1.2, h.2⟩
theorem fieldL_length {i : Nat} {l : List It} (h : goodF i l = true) : (fieldL l).length ≤ 54 := by
 obtain ⟨hg, h1, h6⟩ := goodF_spec h
 have := joinL_length 44 (l.map itemL) 8 (by intro z hz; obtain ⟨y, hy, rfl⟩ := List.mem_map.1 hz; exact itemL_length (hg y hy))
 rw [List.length_map] at this
 unfold fieldL
 omega
theorem field_from {i : Nat} (l : List It) (hg : ∀ x ∈ l, goodItem i x = true) (h6 : l.length ≤ 6) :
  ∀ (rest : List It) (j : Nat), l.drop j = rest → j ≤ l.length → Ev (fun k => spec_FieldText.l0 k (B (joinL 44 ((l.take j).map itemL))) l (l.length : Int) (j : Int)) (B (fieldL l)) := by
 intro rest
 induction rest with
 | nil =>
  intro j hj hjl
  have hlen : l.length ≤ j := List.drop_eq_nil_iff.1 hj
  refine Ev.done fun k => ?_
  simp only [spec_FieldText.l0]
  rw [if_neg (by omega), List.take_of_length_le hlen]
  rfl
 | cons x t ih =>
  intro j hj hjl
  have hlt : j < l.length := by
   rcases Nat.lt_or_ge j l.length with h | h
   ·exact h
   ·rw [List.drop_eq_nil_of_le h] at hj; cases hj
  have hx : l[j] = x := by
   have := List.drop_eq_getElem_cons hlt
   rw [hj] at this
   exact (List.cons.inj this).1.symm
  have ht : l.drop (j + 1) = t := by rw [← List.drop_drop, hj]; rfl
  have hrd := rdI_at l j hlt
  rw [hx] at hrd
  have hgx := hg x (by rw [← hx]; exact List.getElem_mem hlt)
  have hlx := itemL_length hgx
  have hbound : (joinL 44 ((l.take j).map itemL)).length ≤ 54 := by
   have := joinL_length 44 ((l.take j).map itemL) 8 (by intro z hz; obtain ⟨y, hy, rfl⟩ := List.mem_map.1 hz; exact itemL_length (hg y (List.mem_of_mem_take hy)))
   rw [List.length_map, List.length_take] at this
   omega
  have hrec := ih (j + 1) ht (by omega)
  rw [List.take_succ_eq_append_getElem hlt, List.map_append, hx, List.map_singleton] at hrec
  by_cases h0 : j = 0
  ·subst h0
   refine Ev.step (f := fun k => (spec_ItemText.f k x.f0 x.f1 x.f2 x.f3).bind fun t => if t.size ≤ 9223372036854775807 then spec_FieldText.l0 k (B [] ++ t) l (l.length : Int) ((0 + 1 : Nat) : Int) else none) (fun k => ?_) (Ev.bind (item_ev hgx) ?_)
   ·simp only [spec_FieldText.l0, hrd]
    rw [if_pos (by omega), if_pos (by omega), if_pos (by omega), if_neg (by omega), wrap64_nat 0 (by omega)]
    simp [joinL, B_size]
   ·refine Ev.congr (f := fun k => spec_FieldText.l0 k (B (joinL 44 ([] ++ [itemL x]))) l (l.length : Int) ((0 + 1 : Nat) : Int)) (fun k => ?_) (by simpa using hrec)
    rw [if_pos (by rw [B_size]; omega), B_app]
    rfl
  ·have hnn : (l.take j).map itemL ≠ [] := by
    intro e
    have := congrArg List.length e
    rw [List.length_map, List.length_take, List.length_nil] at this
    omega
   rw [joinL_snoc _ _ _ hnn] at hrec
   refine Ev.step (f := fun k => (spec_ItemText.f k x.f0 x.f1 x.f2 x.f3).bind fun t => if (B (joinL 44 ((l.take j).map itemL ++ [[]]))).size + t.size ≤ 9223372036854775807 then spec_FieldText.l0 k (B (joinL 44 ((l.take j).map itemL ++ [[]])) ++ t) l (l.length : Int) ((j + 1 : Nat) : Int) else none) (fun k => ?_) (Ev.bind (item_ev hgx) ?_)
   ·simp only [spec_FieldText.l0, hrd]
    rw [if_pos (by omega), if_pos (by omega), if_pos (by omega), if_pos (by omega), wrap64_nat j (by omega), if_pos (by rw [B_size]; omega), show (⟨#[44]⟩ : ByteArray) = B [44] from rfl, B_app, joinL_snoc _ _ _ hnn]
   ·refine Ev.congr (f := fun k => spec_FieldText.l0 k (B (joinL 44 ((l.take j).map itemL) ++ 44 :: itemL x)) l (l.length : Int) ((j + 1 : Nat) : Int)) (fun k => ?_) (by simpa using hrec)
    rw [joinL_snoc _ _ _ hnn, if_pos (by rw [B_size, B_size, List.length_append, List.length_singleton]; omega), B_app]
    simp
theorem field_ev {i : Nat} {l : List It} (h : goodF i l = true) : Ev (fun k => spec_FieldText.f k l) (B (fieldL l)) := by
 obtain ⟨hg, h1, h6⟩ := goodF_spec h
 exact field_from l hg h6 l 0 rfl (Nat.zero_le _)
theorem rdF_at (l : List (List It)) (j : Nat) (h : j < l.length) : rd_L5 l (j : Int) = l[j] := by
 simp [rd_L5, h]
theorem joinL_ne (c : UInt8) (l : List (List UInt8)) (h : l ≠ []) (hx : ∀ x ∈ l, x ≠ []) : joinL c l ≠ [] := by
 match l with
 | [] => exact absurd rfl h
 | [x] => exact hx x (by simp)
 | x :: y :: t => rw [joinL]; simp
theorem itemL_ne (x : It) : itemL x ≠ [] := by
 unfold itemL
 split
 ·simp
 ·have := decN_ne x.f1.toNat
  simp [this]
theorem fieldL_ne {i : Nat} {l : List It} (h : goodF i l = true) : fieldL l ≠ [] := by
 obtain ⟨hg, h1, h6⟩ := goodF_spec h
 refine joinL_ne _ _ ?_ ?_
 ·intro e
  have := congrArg List.length e
  simp at this
  rw [this] at h1
  simp at h1
 ·intro x hx
  obtain ⟨y, _, rfl⟩ := List.mem_map.1 hx
  exact itemL_ne y
def written (Fs : List (List It)) (secs : Bool) : List (List It) := if secs then Fs else Fs.drop 1
def textL (Fs : List (List It)) (secs : Bool) : List UInt8 := joinL 32 ((written Fs secs).map fieldL)
def GoodFs (Fs : List (List It)) : Prop := Fs.length = 6 ∧ ∀ (j : Nat) (h : j < Fs.length), goodF j Fs[j] = true
theorem written_take (Fs : List (List It)) (secs : Bool) (j : Nat) (h : j < Fs.length) (hw : secs = true ∨ 0 < j) :
  written (Fs.take (j + 1)) secs = written (Fs.take j) secs ++ [Fs[j]] := by
 unfold written
 rw [List.take_succ_eq_append_getElem h]
 cases secs with
 | true => rfl
 | false =>
  simp at hw
  rw [if_neg (by simp), if_neg (by simp), List.drop_append, show 1 - (List.take j Fs).length = 0 by rw [List.length_take]; omega]
  rfl
theorem text_from (Fs : List (List It)) (secs : Bool) (hF : GoodFs Fs) :
  ∀ (d j : Nat), 6 - j = d → j ≤ 6 → Ev (fun k => spec_Text.l0 k (B (joinL 32 ((written (Fs.take j) secs).map fieldL))) Fs 6 (j : Int) Fs secs) (B (textL Fs secs)) := by
 obtain ⟨h6, hg⟩ := hF
 intro d
 induction d with
 | zero =>
  intro j hd hj
  refine Ev.done fun k => ?_
  simp only [spec_Text.l0]
  rw [if_neg (by omega), List.take_of_length_le (by omega)]
  rfl
 | succ d ih =>
  intro j hd hj
  have hlt : j < Fs.length := by omega
  have hgj := hg j hlt
  have hrd := rdF_at Fs j hlt
  have hfl := fieldL_length hgj
  have hrec := ih (j + 1) (by omega) (by omega)
  have hb : (joinL 32 ((written (Fs.take j) secs).map fieldL)).length ≤ 330 := by
   have hall : ∀ x ∈ (written (Fs.take j) secs).map fieldL, x.length ≤ 54 := by
    intro x hx
    obtain ⟨y, hy, rfl⟩ := List.mem_map.1 hx
    have hy2 : y ∈ Fs := by
     unfold written at hy
     split at hy
     ·exact List.mem_of_mem_take hy
     ·exact List.mem_of_mem_take (List.mem_of_mem_drop hy)
    obtain ⟨q, hq, rfl⟩ := List.getElem_of_mem hy2
    exact fieldL_length (hg q hq)
   have := joinL_length 32 _ 54 hall
   have hlen : ((written (Fs.take j) secs).map fieldL).length ≤ 6 := by
    rw [List.length_map]
    unfold written
    split
    ·rw [List.length_take]; omega
    ·rw [List.length_drop, List.length_take]; omega
   have h2 : ((written (Fs.take j) secs).map fieldL).length * (54 + 1) ≤ 6 * (54 + 1) := Nat.mul_le_mul_right _ hlen
   omega
  by_cases hw : secs = true ∨ 0 < j
  ·have e := written_take Fs secs j hlt hw
   rw [e, List.map_append] at hrec
   have hj1 : Ev (fun k => spec_Text.j1 k (B (joinL 32 ((written (Fs.take j) secs).map fieldL))) Fs[j] Fs 6 (j : Int) false Fs secs) (B (textL Fs secs)) := by
    by_cases hnil : (written (Fs.take j) secs).map fieldL = []
    ·rw [hnil] at hrec ⊢
     refine Ev.step (f := fun k => (spec_FieldText.f k Fs[j]).bind fun t => if t.size ≤ 9223372036854775807 then spec_Text.l0 k (B [] ++ t) Fs 6 ((j + 1 : Nat) : Int) Fs secs else none) (fun k => ?_) (Ev.bind (field_ev hgj) ?_)
     ·simp only [spec_Text.j1]
      rw [if_neg (by simp), if_pos (by rw [B_list]; rfl), wrap64_nat j (by omega)]
      simp [joinL, B_size]
     ·refine Ev.congr (f := fun k => spec_Text.l0 k (B (joinL 32 ([] ++ [fieldL Fs[j]]))) Fs 6 ((j + 1 : Nat) : Int) Fs secs) (fun k => ?_) (by simpa using hrec)
      rw [if_pos (by rw [B_size]; omega), B_app]
      rfl
    ·have hne : joinL 32 ((written (Fs.take j) secs).map fieldL) ≠ [] := by
      refine joinL_ne _ _ hnil ?_
      intro x hx
      obtain ⟨y, hy, rfl⟩ := List.mem_map.1 hx
      have hy2 : y ∈ Fs := by
       unfold written at hy
       split at hy
       ·exact List.mem_of_mem_take hy
       ·exact List.mem_of_mem_take (List.mem_of_mem_drop hy)
      obtain ⟨q, hq, rfl⟩ := List.getElem_of_mem hy2
      exact fieldL_ne (hg q hq)
     rw [List.map_singleton, joinL_snoc _ _ _ hnil] at hrec
     refine Ev.step (f := fun k => (spec_FieldText.f k Fs[j]).bind fun t => if (B (joinL 32 ((written (Fs.take j) secs).map fieldL) ++ [32])).size + t.size ≤ 9223372036854775807 then spec_Text.l0 k (B (joinL 32 ((written (Fs.take j) secs).map fieldL) ++ [32]) ++ t) Fs 6 ((j + 1 : Nat) : Int) Fs secs else none) (fun k => ?_) (Ev.bind (field_ev hgj) ?_)
     ·simp only [spec_Text.j1]
      rw [if_neg (by simp), if_neg (by rw [B_list]; exact hne), wrap64_nat j (by omega), if_pos (by rw [B_size]; omega), show (⟨#[32]⟩ : ByteArray) = B [32] from rfl, B_app]
     ·refine Ev.congr (f := fun k => spec_Text.l0 k (B (joinL 32 ((written (Fs.take j) secs).map fieldL) ++ 32 :: fieldL Fs[j])) Fs 6 ((j + 1 : Nat) : Int) Fs secs) (fun k => ?_) hrec
      rw [if_pos (by rw [B_size, B_size]; simp; omega), B_app]
      simp
   refine Ev.step (f := fun k => spec_Text.j1 k (B (joinL 32 ((written (Fs.take j) secs).map fieldL))) Fs[j] Fs 6 (j : Int) false Fs secs) (fun k => ?_) hj1
   simp only [spec_Text.l0, hrd]
   rw [if_pos (by omega), if_pos (by omega), if_pos (by omega)]
   by_cases h0 : j = 0
   ·rw [if_pos (by omega)]
    have : secs = true := by rcases hw with h | h; exact h; omega
    rw [this]
    rfl
   ·rw [if_neg (by omega)]
  ·have hs : secs = false := by
    cases secs
    ·rfl
    ·exact absurd (Or.inl rfl) hw
   have h0 : j = 0 := by omega
   subst h0
   subst hs
   refine Ev.step (f := fun k => spec_Text.j1 k (B []) Fs[0] Fs 6 ((0 : Nat) : Int) true Fs false) (fun k => ?_) (Ev.step (f := fun k => spec_Text.l0 k (B []) Fs 6 ((0 + 1 : Nat) : Int) Fs false) (fun k => ?_) ?_)
   ·simp only [spec_Text.l0, hrd]
    rw [if_pos (by omega), if_pos (by omega), if_pos (by omega), if_pos (by omega)]
    rfl
   ·simp only [spec_Text.j1]
    rw [if_pos trivial, wrap64_nat 0 (by omega)]
   ·have : written (Fs.take (0 + 1)) false = [] := by
     unfold written
     rw [if_neg (by simp), List.drop_eq_nil_of_le (by rw [List.length_take]; omega)]
    rw [this] at hrec
    exact hrec
theorem text_ev (Fs : List (List It)) (secs : Bool) (hF : GoodFs Fs) : Ev (fun k => spec_Text.f k Fs secs) (B (textL Fs secs)) := by
 have h := text_from Fs secs hF 6 0 rfl (by omega)
 unfold spec_Text.f
 rw [hF.1]
 have e : (written (Fs.take 0) secs).map fieldL = [] := by
  unfold written
  cases secs <;> simp
 rw [e] at h
 exact h
theorem goodE_spec {Fs : List (List It)} {secs : Bool} (h : goodE Fs secs = true) :
  ∃ f0 f1 f2 f3 f4 f5, Fs = [f0, f1, f2, f3, f4, f5] ∧ goodF 0 f0 = true ∧ goodF 1 f1 = true ∧ goodF 2 f2 = true ∧ goodF 3 f3 = true ∧ goodF 4 f4 = true ∧ goodF 5 f5 = true ∧ restE f0 f3 f4 f5 secs = true := by
 unfold goodE at h
 split at h
 ·rename_i f0 f1 f2 f3 f4 f5
  simp only [Bool.and_eq_true] at h
  exact ⟨f0, f1, f2, f3, f4, f5, rfl, h.1, h.2.1, h.2.2.1, h.2.2.2.1, h.2.2.2.2.1, h.2.2.2.2.2.1, h.2.2.2.2.2.2⟩
 ·cases h
theorem goodE_fs {Fs : List (List It)} {secs : Bool} (h : goodE Fs secs = true) : GoodFs Fs := by
 obtain ⟨f0, f1, f2, f3, f4, f5, rfl, h0, h1, h2, h3, h4, h5, _⟩ := goodE_spec h
 refine ⟨rfl, fun j hj => ?_⟩
 match j, hj with
 | 0, _ => exact h0
 | 1, _ => exact h1
 | 2, _ => exact h2
 | 3, _ => exact h3
 | 4, _ => exact h4
 | 5, _ => exact h5
 | n + 6, h => simp at h; omega
end Go.Proofs.YtemgofomhjabpaaGreatDoor.Core
