/- Contracts and plain lemmas of this seat (part 5), merged by wip/merge2.py; what is proved stands in the claim's last text. -/
import Derived.Test.YtemgofomhjabpaaGreatDoorCQue1
import Derived.Test.YtemgofomhjabpaaGreatDoorCQue2
import Derived.Test.YtemgofomhjabpaaGreatDoorCQue3
import Derived.Test.YtemgofomhjabpaaGreatDoorCQue4
import Derived.Lib.Strings
import Derived.Laws.BitsAllLaws
import Derived.Test.YtemgofomhjabpaaGreatDoorProg
import Derived.WalkKit
import Derived.KernelRfl
import Derived.RowKit3
import Derived.WalkSpells
import Derived.WalkLawsBesides
import Derived.Below
import Derived.Outline
import Derived.Deep.QuietTactic
import Derived.BigQuiet
import Derived.Laws.Rows
namespace Go.Proofs.YtemgofomhjabpaaGreatDoor.Core
open Go.RowKit Go.Proofs.YtemgofomhjabpaaGreatDoorW.PrintWords Go.Proofs.YtemgofomhjabpaaGreatDoorW.PrintLast Go.Proofs.YtemgofomhjabpaaGreatDoorW.PrintMore
attribute [local go_sem] max2_int min2_int max_two min_two max_three min_three max_four min_four   -- for this text's walks alone
set_option linter.unusedVariables false
set_option linter.unusedSimpArgs false
mutual
noncomputable def laws_FnQuestion.j0 : Nat → Bool → Int → Int → Int → Int → Int → Int → List (List (S38)) → Bool → Option (Bool)
  | 0, _, _, _, _, _, _, _, _, _ => none
  | k + 1, x23, x193000, x193001, x193002, x193003, x193004, x193005, x199000, x199001 => if x23 = true then (some true) else (laws_FnQuestion.l0 k (⟨#[]⟩ : ByteArray) 1 x193000 x193001 x193002 x193003 x193004 x193005 x199000 x199001)
noncomputable def laws_FnQuestion.l0 : Nat → ByteArray → Int → Int → Int → Int → Int → Int → Int → List (List (S38)) → Bool → Option (Bool)
  | 0, _, _, _, _, _, _, _, _, _, _ => none
  | k + 1, x6, x7, x193000, x193001, x193002, x193003, x193004, x193005, x199000, x199001 => if x7 ≤ 5 then (if 0 ≤ x7 then (if x7 < (x199000.length : Int) then ((spec_FieldText.f k (rd_L5 x199000 x7)).bind fun t210 => (if t210.toList = ([42] : List UInt8) then (if x7 = 3 then (if 5 < (x199000.length : Int) then ((spec_Star.f (rd_L5 x199000 5)).bind fun t212 => (if t212 = true then (if x7 = 5 then (if 3 < (x199000.length : Int) then ((spec_Star.f (rd_L5 x199000 3)).bind fun t214 => (laws_FnQuestion.j2 k x6 x7 t210 (!t214) x193000 x193001 x193002 x193003 x193004 x193005 x199000 x199001)) else (none)) else (laws_FnQuestion.j2 k x6 x7 t210 false x193000 x193001 x193002 x193003 x193004 x193005 x199000 x199001)) else (laws_FnQuestion.j2 k x6 x7 t210 true x193000 x193001 x193002 x193003 x193004 x193005 x199000 x199001))) else (none)) else (if x7 = 5 then (if 3 < (x199000.length : Int) then ((spec_Star.f (rd_L5 x199000 3)).bind fun t216 => (laws_FnQuestion.j2 k x6 x7 t210 (!t216) x193000 x193001 x193002 x193003 x193004 x193005 x199000 x199001)) else (none)) else (laws_FnQuestion.j2 k x6 x7 t210 false x193000 x193001 x193002 x193003 x193004 x193005 x199000 x199001))) else (laws_FnQuestion.j2 k x6 x7 t210 false x193000 x193001 x193002 x193003 x193004 x193005 x199000 x199001))) else (none)) else (none)) else ((impl_Due.f x6 x193000 x193001 x193002 x193003 x193004 x193005).bind fun bt200 => (if bt200.2 = true then ((laws_moment.f x193000 x193001 x193002 x193003 x193004 x193005).bind fun bt202 => ((spec_Fits.f k x199000 x199001 bt202.1 bt202.2.1 bt202.2.2.1 bt202.2.2.2.1 bt202.2.2.2.2.1 bt202.2.2.2.2.2).bind fun t208 => (some (bt200.1 == t208)))) else (some false)))
noncomputable def laws_FnQuestion.j2 : Nat → ByteArray → Int → ByteArray → Bool → Int → Int → Int → Int → Int → Int → List (List (S38)) → Bool → Option (Bool)
  | 0, _, _, _, _, _, _, _, _, _, _, _, _ => none
  | k + 1, x6, x7, x8, x59, x193000, x193001, x193002, x193003, x193004, x193005, x199000, x199001 => if x59 = true then (if x7 > 1 then (if x6.size + 1 ≤ 9223372036854775807 then (if (x6 ++ (⟨#[32]⟩ : ByteArray)).size + 1 ≤ 9223372036854775807 then (laws_FnQuestion.l0 k ((x6 ++ (⟨#[32]⟩ : ByteArray)) ++ (⟨#[63]⟩ : ByteArray)) (wrap64 (x7 + 1)) x193000 x193001 x193002 x193003 x193004 x193005 x199000 x199001) else (none)) else (none)) else (if x6.size + 1 ≤ 9223372036854775807 then (laws_FnQuestion.l0 k (x6 ++ (⟨#[63]⟩ : ByteArray)) (wrap64 (x7 + 1)) x193000 x193001 x193002 x193003 x193004 x193005 x199000 x199001) else (none))) else (if x7 > 1 then (if x6.size + 1 ≤ 9223372036854775807 then (if (x6 ++ (⟨#[32]⟩ : ByteArray)).size + x8.size ≤ 9223372036854775807 then (laws_FnQuestion.l0 k ((x6 ++ (⟨#[32]⟩ : ByteArray)) ++ x8) (wrap64 (x7 + 1)) x193000 x193001 x193002 x193003 x193004 x193005 x199000 x199001) else (none)) else (none)) else (if x6.size + x8.size ≤ 9223372036854775807 then (laws_FnQuestion.l0 k (x6 ++ x8) (wrap64 (x7 + 1)) x193000 x193001 x193002 x193003 x193004 x193005 x199000 x199001) else (none)))
end
noncomputable def laws_FnQuestion.f (k : Nat) (l0_0 : List (List (S69))) (a0_1 : Bool) (a1_0 : Int) (a1_1 : Int) (a1_2 : Int) (a1_3 : Int) (a1_4 : Int) (a1_5 : Int) : Option (Bool) := (laws_zzFits1.f k l0_0 a0_1).bind fun t193 => (if t193 = true then ((laws_expr.f k l0_0 a0_1).bind fun bt194 => ((laws_asked.f k bt194.1 bt194.2 a1_0 a1_1 a1_2 a1_3 a1_4 a1_5).bind fun t199 => (if t199 = true then (laws_FnQuestion.j0 k bt194.2 a1_0 a1_1 a1_2 a1_3 a1_4 a1_5 bt194.1 bt194.2) else (laws_FnQuestion.j0 k true a1_0 a1_1 a1_2 a1_3 a1_4 a1_5 bt194.1 bt194.2)))) else (some true))
def laws_FnQuestion.T17 : Bool × List (List Nat × List Nat) := (true, [([], []), ([0], [0]), ([1], [1]), ([1], [1]), ([1], [1]), ([4, 1, 1], [1, 4]), ([3, 5, 5, 1], [1, 3, 5]), ([2, 6, 1], [1, 2, 6]), ([1, 7], [1, 7]), ([8, 6, 0, 1, 2, 3, 4, 5, 6, 7, 8], [8])])
def laws_FnQuestion.B17 : List Nat := [0, 1, 3, 3, 3, 19, 59, 127, 255, 511]
theorem laws_FnQuestion.tab17 : rtab .any (opsOf Tryz.f4 17) = laws_FnQuestion.T17 := by kernel_rfl
theorem laws_FnQuestion.bits17 : waitsOk laws_FnQuestion.T17.2 laws_FnQuestion.B17 = true := by kernel_rfl
set_option maxHeartbeats 8000000 in
set_option maxRecDepth 100000 in
theorem laws_FnQuestion.calls (k : Nat) (A0_0 : Option Addr) (c0_0 : Nat) (l0_0 : List (List (S69))) (a0_1 : Bool) (a1_0 : Int) (a1_1 : Int) (a1_2 : Int) (a1_3 : Int) (a1_4 : Int) (a1_5 : Int) (r : Bool) (w : World) (hr0_0 : Kd.C (Kd.slice 69 k69) w A0_0 l0_0.length l0_0) (hc0_0 : l0_0.length ≤ c0_0) (h : laws_FnQuestion.f k l0_0 a0_1 a1_0 a1_1 a1_2 a1_3 a1_4 a1_5 = some r) :
    Calls Tryz.prog 4 #[.agg #[.slice A0_0 l0_0.length c0_0, .bool a0_1], .agg #[.int .i64 a1_0, .int .i64 a1_1, .int .i64 a1_2, .int .i64 a1_3, .int .i64 a1_4, .int .i64 a1_5]] w fun e w' => e = .returned (.bool r) ∧ Below w.heap.size w w' := by
  have hu24 := Tryz.underlying24
  have hu26 := Tryz.underlying26
  have hu30 := Tryz.underlying30
  have HR0_0 := Aside0.mk hr0_0
  have HC0_0 := Aside0.mk hc0_0
  clear hr0_0 hc0_0
  have HB := Aside0.mk (Below.refl w.heap.size w)
  have H : ((laws_zzFits1.f k l0_0 a0_1).bind fun t193 => (if t193 = true then ((laws_expr.f k l0_0 a0_1).bind fun bt194 => ((laws_asked.f k bt194.1 bt194.2 a1_0 a1_1 a1_2 a1_3 a1_4 a1_5).bind fun t199 => (if t199 = true then (laws_FnQuestion.j0 k bt194.2 a1_0 a1_1 a1_2 a1_3 a1_4 a1_5 bt194.1 bt194.2) else (laws_FnQuestion.j0 k true a1_0 a1_1 a1_2 a1_3 a1_4 a1_5 bt194.1 bt194.2)))) else (some true))) = some r := h
  clear h
  replace H := Option.bind_eq_some_iff.mp H
  obtain ⟨t193, A30, H⟩ := H
  replace H : (if t193 = true then ((laws_expr.f k l0_0 a0_1).bind fun bt194 => ((laws_asked.f k bt194.1 bt194.2 a1_0 a1_1 a1_2 a1_3 a1_4 a1_5).bind fun t199 => (if t199 = true then (laws_FnQuestion.j0 k bt194.2 a1_0 a1_1 a1_2 a1_3 a1_4 a1_5 bt194.1 bt194.2) else (laws_FnQuestion.j0 k true a1_0 a1_1 a1_2 a1_3 a1_4 a1_5 bt194.1 bt194.2)))) else (some true)) = some r := H
  have A3 := Aside0.mk A30
  clear A30
  by_cases c4 : t193 = true
  · subst c4
    have H1 : ((laws_expr.f k l0_0 a0_1).bind fun bt194 => ((laws_asked.f k bt194.1 bt194.2 a1_0 a1_1 a1_2 a1_3 a1_4 a1_5).bind fun t199 => (if t199 = true then (laws_FnQuestion.j0 k bt194.2 a1_0 a1_1 a1_2 a1_3 a1_4 a1_5 bt194.1 bt194.2) else (laws_FnQuestion.j0 k true a1_0 a1_1 a1_2 a1_3 a1_4 a1_5 bt194.1 bt194.2)))) = some r := by rw [if_pos rfl] at H; exact H
    clear H
    have H := H1
    clear H1
    replace H := Option.bind_eq_some_iff.mp H
    obtain ⟨⟨t194, t197⟩, A50, H⟩ := H
    replace H : ((laws_asked.f k t194 t197 a1_0 a1_1 a1_2 a1_3 a1_4 a1_5).bind fun t199 => (if t199 = true then (laws_FnQuestion.j0 k t197 a1_0 a1_1 a1_2 a1_3 a1_4 a1_5 t194 t197) else (laws_FnQuestion.j0 k true a1_0 a1_1 a1_2 a1_3 a1_4 a1_5 t194 t197))) = some r := H
    have A5 := Aside0.mk A50
    clear A50
    have HC6 := Aside0.mk H
    clear H
    go_enter Tryz.func4, Tryz.ntmps4
    go_upto_region 4 with (first | ((with_reducible refine gate_dst (N := 2) rfl ?_); refine box_event ?hg (N := 2) ?hd (cs := #[.slice A0_0 l0_0.length c0_0, .bool a0_1]) (t := 24) ?hr ?_; (case hd => rfl); (case hg => rfl); (case hr => first | (go_simp; done) | (go_simp; rfl)); intro gb191 hg w7 hbox hb; have n0_ := Aside0.mk (below_step (by repeat (first | (with_reducible first | exact HB.out | apply below_alloc | apply pw_below_drewN | apply below_drew1) | exact HB.out)) hb); have n1_ := Aside0.mk (hbox); have n2_ := Aside0.mk ((by rw [hg]; exact (below_size (by repeat (first | (with_reducible first | exact HB.out | apply below_alloc | apply pw_below_drewN | apply below_drew1) | exact HB.out))) : w.heap.size ≤ gb191)); have n3_ := Aside0.mk ((by rw [hg]; exact (below_size (by repeat (first | (with_reducible first | exact HB.out | apply below_alloc | apply pw_below_drewN | apply below_drew1) | exact HB.out))) : w.heap.size ≤ gb191)); clear HB; have HB := n0_; have BK191 := n1_; have GW191 := n2_; have GE191 := n3_; clear n0_ n1_ n2_ n3_; clear hb hbox hg) | ((with_reducible refine gate_dst (N := 3) rfl ?_); refine box_event ?hg (N := 3) ?hd (cs := #[.int .i64 a1_0, .int .i64 a1_1, .int .i64 a1_2, .int .i64 a1_3, .int .i64 a1_4, .int .i64 a1_5]) (t := 26) ?hr ?_; (case hd => rfl); (case hg => rfl); (case hr => first | (go_simp; done) | (go_simp; rfl)); intro gb192 hg w8 hbox hb; have n0_ := Aside0.mk (blk_below (g := gb191) (o := .cells #[.slice A0_0 l0_0.length c0_0, .bool a0_1] 24 (0, 0)) (by (with_reducible repeat (first | refine blk_drewN ?_ _ | refine blk_drew ?_ | refine blk_alloc ?_ _)); exact BK191.out) hb); have n1_ := Aside0.mk (below_step (by repeat (first | (with_reducible first | exact HB.out | apply below_alloc | apply pw_below_drewN | apply below_drew1 | refine below_set ?_ GE191.out) | exact HB.out)) hb); have n2_ := Aside0.mk (hbox); have n3_ := Aside0.mk ((by rw [hg]; exact (below_size (by repeat (first | (with_reducible first | exact HB.out | apply below_alloc | apply pw_below_drewN | apply below_drew1 | refine below_set ?_ GE191.out) | exact HB.out))) : w.heap.size ≤ gb192)); have n4_ := Aside0.mk ((by rw [hg]; exact (below_size (by repeat (first | (with_reducible first | exact HB.out | apply below_alloc | apply pw_below_drewN | apply below_drew1 | refine below_set ?_ GE191.out) | exact HB.out))) : w.heap.size ≤ gb192)); have n5_ := Aside0.mk ((by rw [hg]; exact Nat.ne_of_lt (blk_lt (g := gb191) (o := .cells #[.slice A0_0 l0_0.length c0_0, .bool a0_1] 24 (0, 0)) (by (with_reducible repeat (first | refine blk_drewN ?_ _ | refine blk_drew ?_ | refine blk_alloc ?_ _)); exact BK191.out)) : gb191 ≠ gb192)); have n6_ := Aside0.mk ((by rw [hg]; exact Nat.ne_of_gt (blk_lt (g := gb191) (o := .cells #[.slice A0_0 l0_0.length c0_0, .bool a0_1] 24 (0, 0)) (by (with_reducible repeat (first | refine blk_drewN ?_ _ | refine blk_drew ?_ | refine blk_alloc ?_ _)); exact BK191.out)) : gb192 ≠ gb191)); clear BK191; clear HB; have BK191 := n0_; have HB := n1_; have BK192 := n2_; have GW192 := n3_; have GE192 := n4_; have NB191_192 := n5_; have NB192_191 := n6_; clear n0_ n1_ n2_ n3_ n4_ n5_ n6_; clear hb hbox hg; have hnb9 := NB191_192.out; have hnc9 := NB192_191.out; have hcz10_0 : w8.cell? ⟨gb191, 0, none⟩ = some (.slice A0_0 l0_0.length c0_0) := (blk_cell BK191.out 0).trans rfl; have hcz10_1 : w8.cell? ⟨gb191, 1, none⟩ = some (.bool a0_1) := (blk_cell BK191.out 1).trans rfl; have hfz10_0 := blk_frozen BK191.out 0; have hfz10_1 := blk_frozen BK191.out 1) | ((with_reducible refine gate_callee (f := 11) rfl ?_); refine goesL_ (some 12) rfl rfl Tryz.func11 (by kernel_rfl) rfl #[.agg #[.slice A0_0 l0_0.length c0_0, .bool a0_1]] rfl (by (try simp only [List.map_toArray, List.map_cons, List.map_nil]); first | done | rfl | (simp only [List.length_drop, List.length_take]; rfl)) ?_; (with_reducible refine (laws_zzFits1.calls k _ _ l0_0 a0_1 true _ ?side1 ?side2 A3.out).mono ?_); (case side1 => repeat (first | exact (Kd.C_below HR0_0.out HB.out) | (with_reducible refine Kd.C_alloc ?_ _) | (with_reducible refine Kd.C_drewN ?_ _) | (with_reducible refine Kd.C_drew ?_))); (case side2 => exact HC0_0.out); rintro e w11 ⟨rfl, hb⟩; refine ⟨_, rfl, ?_⟩; have n0_ := Aside0.mk (blk_below (g := gb191) (o := .cells #[.slice A0_0 l0_0.length c0_0, .bool a0_1] 24 (0, 0)) (by (with_reducible repeat (first | refine blk_drewN ?_ _ | refine blk_drew ?_ | refine blk_alloc ?_ _)); exact BK191.out) hb); have n1_ := Aside0.mk (blk_below (g := gb192) (o := .cells #[.int .i64 a1_0, .int .i64 a1_1, .int .i64 a1_2, .int .i64 a1_3, .int .i64 a1_4, .int .i64 a1_5] 26 (0, 0)) (by (with_reducible repeat (first | refine blk_drewN ?_ _ | refine blk_drew ?_ | refine blk_alloc ?_ _)); exact BK192.out) hb); have n2_ := Aside0.mk (below_step (by repeat (first | (with_reducible first | exact HB.out | apply below_alloc | apply pw_below_drewN | apply below_drew1 | refine below_set ?_ GE191.out | refine below_set ?_ GE192.out) | exact HB.out)) hb); clear BK191; clear BK192; clear HB; have BK191 := n0_; have BK192 := n1_; have HB := n2_; clear n0_ n1_ n2_; (try clear hb); (try clear hb2); (try clear hk); (try clear hi); have hcz12_0 : w11.cell? ⟨gb191, 0, none⟩ = some (.slice A0_0 l0_0.length c0_0) := (blk_cell BK191.out 0).trans rfl; have hcz12_1 : w11.cell? ⟨gb191, 1, none⟩ = some (.bool a0_1) := (blk_cell BK191.out 1).trans rfl; have hfz12_0 := blk_frozen BK191.out 0; have hfz12_1 := blk_frozen BK191.out 1) | ((with_reducible refine gate_callee (f := 12) rfl ?_); refine goesL_ (some 15) rfl rfl Tryz.func12 (by kernel_rfl) rfl #[.agg #[.slice A0_0 l0_0.length c0_0, .bool a0_1]] rfl (by (try simp only [List.map_toArray, List.map_cons, List.map_nil]); first | done | rfl | (simp only [List.length_drop, List.length_take]; rfl)) ?_; (with_reducible refine (laws_expr.calls k _ _ l0_0 a0_1 t194 t197 _ ?side1 ?side2 A5.out).mono ?_); (case side1 => repeat (first | exact (Kd.C_below HR0_0.out HB.out) | (with_reducible refine Kd.C_alloc ?_ _) | (with_reducible refine Kd.C_drewN ?_ _) | (with_reducible refine Kd.C_drew ?_))); (case side2 => exact HC0_0.out); rintro e w13 ⟨v195, rfl, ho0, hb⟩; refine ⟨_, rfl, ?_⟩; have n0_ := Aside0.mk (Kd.S_lower ho0 (below_size (by repeat (first | (with_reducible first | exact HB.out | apply below_alloc | apply pw_below_drewN | apply below_drew1 | refine below_set ?_ GE191.out | refine below_set ?_ GE192.out) | exact HB.out)))); have n1_ := Aside0.mk (blk_below (g := gb191) (o := .cells #[.slice A0_0 l0_0.length c0_0, .bool a0_1] 24 (0, 0)) (by (with_reducible repeat (first | refine blk_drewN ?_ _ | refine blk_drew ?_ | refine blk_alloc ?_ _)); exact BK191.out) hb); have n2_ := Aside0.mk (blk_below (g := gb192) (o := .cells #[.int .i64 a1_0, .int .i64 a1_1, .int .i64 a1_2, .int .i64 a1_3, .int .i64 a1_4, .int .i64 a1_5] 26 (0, 0)) (by (with_reducible repeat (first | refine blk_drewN ?_ _ | refine blk_drew ?_ | refine blk_alloc ?_ _)); exact BK192.out) hb); have n3_ := Aside0.mk (below_step (by repeat (first | (with_reducible first | exact HB.out | apply below_alloc | apply pw_below_drewN | apply below_drew1 | refine below_set ?_ GE191.out | refine below_set ?_ GE192.out) | exact HB.out)) hb); clear BK191; clear BK192; clear HB; have HO196 := n0_; have BK191 := n1_; have BK192 := n2_; have HB := n3_; clear n0_ n1_ n2_ n3_; (try clear hb); (try clear hb2); (try clear hk); (try clear hi); (try clear ho0)) | ((with_reducible refine gate_dst (N := 5) rfl ?_); refine box_event ?hg (N := 5) ?hd (cs := #[.slice none 0 0, .bool false]) (t := 30) ?hr ?_; (case hd => rfl); (case hg => rfl); (case hr => first | (go_simp; done) | (go_simp; rfl)); intro gb198 hg w14 hbox hb; have n0_ := Aside0.mk (Kd.S_below (by (with_reducible repeat (first | apply Kd.S_alloc | apply Kd.S_drewN | apply Kd.S_drew)); exact HO196.out) hb); have n1_ := Aside0.mk (blk_below (g := gb191) (o := .cells #[.slice A0_0 l0_0.length c0_0, .bool a0_1] 24 (0, 0)) (by (with_reducible repeat (first | refine blk_drewN ?_ _ | refine blk_drew ?_ | refine blk_alloc ?_ _)); exact BK191.out) hb); have n2_ := Aside0.mk (blk_below (g := gb192) (o := .cells #[.int .i64 a1_0, .int .i64 a1_1, .int .i64 a1_2, .int .i64 a1_3, .int .i64 a1_4, .int .i64 a1_5] 26 (0, 0)) (by (with_reducible repeat (first | refine blk_drewN ?_ _ | refine blk_drew ?_ | refine blk_alloc ?_ _)); exact BK192.out) hb); have n3_ := Aside0.mk (below_step (by repeat (first | (with_reducible first | exact HB.out | apply below_alloc | apply pw_below_drewN | apply below_drew1 | refine below_set ?_ GE191.out | refine below_set ?_ GE192.out) | exact HB.out)) hb); have n4_ := Aside0.mk (hbox); have n5_ := Aside0.mk ((by rw [hg]; exact (below_size (by repeat (first | (with_reducible first | exact HB.out | apply below_alloc | apply pw_below_drewN | apply below_drew1 | refine below_set ?_ GE191.out | refine below_set ?_ GE192.out) | exact HB.out))) : w.heap.size ≤ gb198)); have n6_ := Aside0.mk ((by rw [hg]; exact (below_size (by repeat (first | (with_reducible first | exact HB.out | apply below_alloc | apply pw_below_drewN | apply below_drew1 | refine below_set ?_ GE191.out | refine below_set ?_ GE192.out) | exact HB.out))) : w.heap.size ≤ gb198)); have n7_ := Aside0.mk ((by rw [hg]; exact Nat.ne_of_lt (blk_lt (g := gb191) (o := .cells #[.slice A0_0 l0_0.length c0_0, .bool a0_1] 24 (0, 0)) (by (with_reducible repeat (first | refine blk_drewN ?_ _ | refine blk_drew ?_ | refine blk_alloc ?_ _)); exact BK191.out)) : gb191 ≠ gb198)); have n8_ := Aside0.mk ((by rw [hg]; exact Nat.ne_of_gt (blk_lt (g := gb191) (o := .cells #[.slice A0_0 l0_0.length c0_0, .bool a0_1] 24 (0, 0)) (by (with_reducible repeat (first | refine blk_drewN ?_ _ | refine blk_drew ?_ | refine blk_alloc ?_ _)); exact BK191.out)) : gb198 ≠ gb191)); have n9_ := Aside0.mk ((by rw [hg]; exact Nat.ne_of_lt (blk_lt (g := gb192) (o := .cells #[.int .i64 a1_0, .int .i64 a1_1, .int .i64 a1_2, .int .i64 a1_3, .int .i64 a1_4, .int .i64 a1_5] 26 (0, 0)) (by (with_reducible repeat (first | refine blk_drewN ?_ _ | refine blk_drew ?_ | refine blk_alloc ?_ _)); exact BK192.out)) : gb192 ≠ gb198)); have n10_ := Aside0.mk ((by rw [hg]; exact Nat.ne_of_gt (blk_lt (g := gb192) (o := .cells #[.int .i64 a1_0, .int .i64 a1_1, .int .i64 a1_2, .int .i64 a1_3, .int .i64 a1_4, .int .i64 a1_5] 26 (0, 0)) (by (with_reducible repeat (first | refine blk_drewN ?_ _ | refine blk_drew ?_ | refine blk_alloc ?_ _)); exact BK192.out)) : gb198 ≠ gb192)); clear HO196; clear BK191; clear BK192; clear HB; have HO196 := n0_; have BK191 := n1_; have BK192 := n2_; have HB := n3_; have BK198 := n4_; have GW198 := n5_; have GE198 := n6_; have NB191_198 := n7_; have NB198_191 := n8_; have NB192_198 := n9_; have NB198_192 := n10_; clear n0_ n1_ n2_ n3_ n4_ n5_ n6_ n7_ n8_ n9_ n10_; clear hb hbox hg; obtain ⟨Ao15, co15, eo15⟩ := Kd.S_slice HO196.out; subst eo15; have hnb16 := NB198_191.out; have hnc16 := NB191_198.out; have hnb17 := NB198_192.out; have hnc17 := NB192_198.out; have hcz18_0 : w14.cell? ⟨gb198, 0, none⟩ = some (.slice none 0 0) := (blk_cell BK198.out 0).trans rfl; have hcz18_1 : w14.cell? ⟨gb198, 1, none⟩ = some (.bool false) := (blk_cell BK198.out 1).trans rfl; have hfz18_0 := blk_frozen BK198.out 0; have hfz18_1 := blk_frozen BK198.out 1))
    (try simp only [Act.put, List.setIfInBounds_toArray, List.set_cons_zero, List.set_cons_succ])
    go_cut [23] (fun v23 wc => ∃ (kq : Nat) (x23_5 : Bool), v23 = .bool x23_5 ∧ Aside0 (laws_FnQuestion.j0 kq x23_5 a1_0 a1_1 a1_2 a1_3 a1_4 a1_5 t194 t197 = some r) ∧ Aside0 (kq ≤ k) ∧ Aside0 (Kd.S (Kd.slice 38 k38) 36 wc w.heap.size (fun _ => True) (.slice Ao15 t194.length co15) t194) ∧ Aside0 (wc.heap[gb191]? = some (.cells #[(.slice A0_0 l0_0.length c0_0), .bool a0_1] 24 (0, 0))) ∧ Aside0 (wc.heap[gb192]? = some (.cells #[.int .i64 a1_0, .int .i64 a1_1, .int .i64 a1_2, .int .i64 a1_3, .int .i64 a1_4, .int .i64 a1_5] 26 (0, 0))) ∧ Aside0 (wc.heap[gb198]? = some (.cells #[(.slice Ao15 t194.length co15), .bool t197] 30 (0, 0))) ∧ Aside0 (Below w.heap.size w wc))
    case first =>
      have H := HC6.out
      clear HC6
      replace H := Option.bind_eq_some_iff.mp H
      obtain ⟨t199, A190, H⟩ := H
      replace H : (if t199 = true then (laws_FnQuestion.j0 k t197 a1_0 a1_1 a1_2 a1_3 a1_4 a1_5 t194 t197) else (laws_FnQuestion.j0 k true a1_0 a1_1 a1_2 a1_3 a1_4 a1_5 t194 t197)) = some r := H
      have A19 := Aside0.mk A190
      clear A190
      by_cases c20 : t199 = true
      · subst c20
        have H1 : (laws_FnQuestion.j0 k t197 a1_0 a1_1 a1_2 a1_3 a1_4 a1_5 t194 t197) = some r := by rw [if_pos rfl] at H; exact H
        clear H
        have H := H1
        clear H1
        have H' := Aside0.mk H
        clear H
        have hnb21 := NB198_191.out
        have hnc21 := NB191_198.out
        have hnb22 := NB198_192.out
        have hnc22 := NB192_198.out
        have hcz23_0 : w14.cell? ⟨gb198, 0, none⟩ = some (.slice none 0 0) := (blk_cell BK198.out 0).trans rfl
        have hcz23_1 : w14.cell? ⟨gb198, 1, none⟩ = some (.bool false) := (blk_cell BK198.out 1).trans rfl
        have hfz23_0 := blk_frozen BK198.out 0
        have hfz23_1 := blk_frozen BK198.out 1
        have hnb24 := NB192_191.out
        have hnc24 := NB191_192.out
        have hcz25_0 : w14.cell? ⟨gb192, 0, none⟩ = some (.int .i64 a1_0) := (blk_cell BK192.out 0).trans rfl
        have hcz25_1 : w14.cell? ⟨gb192, 1, none⟩ = some (.int .i64 a1_1) := (blk_cell BK192.out 1).trans rfl
        have hcz25_2 : w14.cell? ⟨gb192, 2, none⟩ = some (.int .i64 a1_2) := (blk_cell BK192.out 2).trans rfl
        have hcz25_3 : w14.cell? ⟨gb192, 3, none⟩ = some (.int .i64 a1_3) := (blk_cell BK192.out 3).trans rfl
        have hcz25_4 : w14.cell? ⟨gb192, 4, none⟩ = some (.int .i64 a1_4) := (blk_cell BK192.out 4).trans rfl
        have hcz25_5 : w14.cell? ⟨gb192, 5, none⟩ = some (.int .i64 a1_5) := (blk_cell BK192.out 5).trans rfl
        have hfz25_0 := blk_frozen BK192.out 0
        have hfz25_1 := blk_frozen BK192.out 1
        have hfz25_2 := blk_frozen BK192.out 2
        have hfz25_3 := blk_frozen BK192.out 3
        have hfz25_4 := blk_frozen BK192.out 4
        have hfz25_5 := blk_frozen BK192.out 5
        go_wp2_with (first | ((with_reducible refine gate_callee (f := 13) rfl ?_); refine goesL_ (some 18) rfl rfl Tryz.func13 (by kernel_rfl) rfl #[.agg #[.slice Ao15 t194.length co15, .bool t197], .agg #[.int .i64 a1_0, .int .i64 a1_1, .int .i64 a1_2, .int .i64 a1_3, .int .i64 a1_4, .int .i64 a1_5]] rfl (by (try simp only [List.map_toArray, List.map_cons, List.map_nil]); first | done | rfl | (simp only [List.length_drop, List.length_take]; rfl)) ?_; (with_reducible refine (laws_asked.calls k _ _ t194 t197 a1_0 a1_1 a1_2 a1_3 a1_4 a1_5 true _ ?side1 ?side2 A19.out).mono ?_); (case side1 => refine (Kd.S_reads' (e := 36) (base := w.heap.size) (ok := fun k_ => True) (n := t194.length) (c := co15) ?_).2.2; exact (by (with_reducible repeat (first | apply Kd.S_alloc | apply Kd.S_drewN | apply Kd.S_drew)); exact (Kd.S_mono (Kd.S_far (p := ⟨gb198, 1, none⟩) (Kd.S_far (p := ⟨gb198, 0, none⟩) (Kd.S_types HO196.out BK198.out (by decide)) (fun _ hk => hk.2) (.slice Ao15 t194.length co15)) (fun _ hk => hk.2) (.bool t197)) (fun _ h_ => h_.1)))); (case side2 => exact (Kd.S_reads' HO196.out).2.1); rintro e w26 ⟨rfl, hb⟩; refine ⟨_, rfl, ?_⟩; have n0_ := Aside0.mk (Kd.S_below (by (with_reducible repeat (first | apply Kd.S_alloc | apply Kd.S_drewN | apply Kd.S_drew)); exact (Kd.S_mono (Kd.S_far (p := ⟨gb198, 1, none⟩) (Kd.S_far (p := ⟨gb198, 0, none⟩) (Kd.S_types HO196.out BK198.out (by decide)) (fun _ hk => hk.2) (.slice Ao15 t194.length co15)) (fun _ hk => hk.2) (.bool t197)) (fun _ h_ => h_.1))) hb); have n1_ := Aside0.mk (blk_below (g := gb191) (o := .cells #[.slice A0_0 l0_0.length c0_0, .bool a0_1] 24 (0, 0)) (by (with_reducible repeat (first | refine blk_drewN ?_ _ | refine blk_drew ?_ | refine blk_alloc ?_ _)); refine blk_far ?_ NB191_198.out _; (with_reducible repeat (first | refine blk_drewN ?_ _ | refine blk_drew ?_ | refine blk_alloc ?_ _)); refine blk_far ?_ NB191_198.out _; (with_reducible repeat (first | refine blk_drewN ?_ _ | refine blk_drew ?_ | refine blk_alloc ?_ _)); exact BK191.out) hb); have n2_ := Aside0.mk (blk_below (g := gb192) (o := .cells #[.int .i64 a1_0, .int .i64 a1_1, .int .i64 a1_2, .int .i64 a1_3, .int .i64 a1_4, .int .i64 a1_5] 26 (0, 0)) (by (with_reducible repeat (first | refine blk_drewN ?_ _ | refine blk_drew ?_ | refine blk_alloc ?_ _)); refine blk_far ?_ NB192_198.out _; (with_reducible repeat (first | refine blk_drewN ?_ _ | refine blk_drew ?_ | refine blk_alloc ?_ _)); refine blk_far ?_ NB192_198.out _; (with_reducible repeat (first | refine blk_drewN ?_ _ | refine blk_drew ?_ | refine blk_alloc ?_ _)); exact BK192.out) hb); have n3_ := Aside0.mk (blk_below (g := gb198) (o := .cells #[.slice Ao15 t194.length co15, .bool t197] 30 (0, 0)) (by (with_reducible repeat (first | refine blk_drewN ?_ _ | refine blk_drew ?_ | refine blk_alloc ?_ _)); refine blk_put (cs := #[.slice Ao15 t194.length co15, .bool false]) ?_ 1 _ rfl; (with_reducible repeat (first | refine blk_drewN ?_ _ | refine blk_drew ?_ | refine blk_alloc ?_ _)); refine blk_put (cs := #[.slice none 0 0, .bool false]) ?_ 0 _ rfl; (with_reducible repeat (first | refine blk_drewN ?_ _ | refine blk_drew ?_ | refine blk_alloc ?_ _)); exact BK198.out) hb); have n4_ := Aside0.mk (below_step (by repeat (first | (with_reducible first | exact HB.out | apply below_alloc | apply pw_below_drewN | apply below_drew1 | refine below_set ?_ GE191.out | refine below_set ?_ GE192.out | refine below_set ?_ GE198.out) | exact HB.out)) hb); clear HO196; clear BK191; clear BK192; clear BK198; clear HB; have HO196 := n0_; have BK191 := n1_; have BK192 := n2_; have BK198 := n3_; have HB := n4_; clear n0_ n1_ n2_ n3_ n4_; (try clear hb); (try clear hb2); (try clear hk); (try clear hi); have hcz27_0 : w26.cell? ⟨gb198, 0, none⟩ = some (.slice Ao15 t194.length co15) := (blk_cell BK198.out 0).trans rfl; have hcz27_1 : w26.cell? ⟨gb198, 1, none⟩ = some (.bool t197) := (blk_cell BK198.out 1).trans rfl; have hfz27_0 := blk_frozen BK198.out 0; have hfz27_1 := blk_frozen BK198.out 1))
        go_meet
        case rel => exact ⟨_, (t197), (by first | rfl | (simp; done) | (simp [*]; done)), H', ⟨by first | omega | exact Nat.le_refl _⟩, ⟨by (with_reducible repeat (first | apply Kd.S_alloc | apply Kd.S_drewN | apply Kd.S_drew)); exact HO196.out⟩, ⟨by (with_reducible repeat (first | refine blk_drewN ?_ _ | refine blk_drew ?_ | refine blk_alloc ?_ _)); exact BK191.out⟩, ⟨by (with_reducible repeat (first | refine blk_drewN ?_ _ | refine blk_drew ?_ | refine blk_alloc ?_ _)); exact BK192.out⟩, ⟨by (with_reducible repeat (first | refine blk_drewN ?_ _ | refine blk_drew ?_ | refine blk_alloc ?_ _)); exact BK198.out⟩, ⟨by repeat (first | (with_reducible first | exact HB.out | apply below_alloc | apply pw_below_drewN | apply below_drew1 | refine below_set ?_ GE191.out | refine below_set ?_ GE192.out | refine below_set ?_ GE198.out) | exact HB.out)⟩⟩
      · replace c20 := Bool.eq_false_iff.mpr c20
        subst c20
        have H1 : (laws_FnQuestion.j0 k true a1_0 a1_1 a1_2 a1_3 a1_4 a1_5 t194 t197) = some r := by rw [if_neg (show ¬ (false = true) by decide)] at H; exact H
        clear H
        have H := H1
        clear H1
        have H' := Aside0.mk H
        clear H
        have hnb28 := NB198_191.out
        have hnc28 := NB191_198.out
        have hnb29 := NB198_192.out
        have hnc29 := NB192_198.out
        have hcz30_0 : w14.cell? ⟨gb198, 0, none⟩ = some (.slice none 0 0) := (blk_cell BK198.out 0).trans rfl
        have hcz30_1 : w14.cell? ⟨gb198, 1, none⟩ = some (.bool false) := (blk_cell BK198.out 1).trans rfl
        have hfz30_0 := blk_frozen BK198.out 0
        have hfz30_1 := blk_frozen BK198.out 1
        have hnb31 := NB192_191.out
        have hnc31 := NB191_192.out
        have hcz32_0 : w14.cell? ⟨gb192, 0, none⟩ = some (.int .i64 a1_0) := (blk_cell BK192.out 0).trans rfl
        have hcz32_1 : w14.cell? ⟨gb192, 1, none⟩ = some (.int .i64 a1_1) := (blk_cell BK192.out 1).trans rfl
        have hcz32_2 : w14.cell? ⟨gb192, 2, none⟩ = some (.int .i64 a1_2) := (blk_cell BK192.out 2).trans rfl
        have hcz32_3 : w14.cell? ⟨gb192, 3, none⟩ = some (.int .i64 a1_3) := (blk_cell BK192.out 3).trans rfl
        have hcz32_4 : w14.cell? ⟨gb192, 4, none⟩ = some (.int .i64 a1_4) := (blk_cell BK192.out 4).trans rfl
        have hcz32_5 : w14.cell? ⟨gb192, 5, none⟩ = some (.int .i64 a1_5) := (blk_cell BK192.out 5).trans rfl
        have hfz32_0 := blk_frozen BK192.out 0
        have hfz32_1 := blk_frozen BK192.out 1
        have hfz32_2 := blk_frozen BK192.out 2
        have hfz32_3 := blk_frozen BK192.out 3
        have hfz32_4 := blk_frozen BK192.out 4
        have hfz32_5 := blk_frozen BK192.out 5
        go_wp2_with (first | ((with_reducible refine gate_callee (f := 13) rfl ?_); refine goesL_ (some 18) rfl rfl Tryz.func13 (by kernel_rfl) rfl #[.agg #[.slice Ao15 t194.length co15, .bool t197], .agg #[.int .i64 a1_0, .int .i64 a1_1, .int .i64 a1_2, .int .i64 a1_3, .int .i64 a1_4, .int .i64 a1_5]] rfl (by (try simp only [List.map_toArray, List.map_cons, List.map_nil]); first | done | rfl | (simp only [List.length_drop, List.length_take]; rfl)) ?_; (with_reducible refine (laws_asked.calls k _ _ t194 t197 a1_0 a1_1 a1_2 a1_3 a1_4 a1_5 false _ ?side1 ?side2 A19.out).mono ?_); (case side1 => refine (Kd.S_reads' (e := 36) (base := w.heap.size) (ok := fun k_ => True) (n := t194.length) (c := co15) ?_).2.2; exact (by (with_reducible repeat (first | apply Kd.S_alloc | apply Kd.S_drewN | apply Kd.S_drew)); exact (Kd.S_mono (Kd.S_far (p := ⟨gb198, 1, none⟩) (Kd.S_far (p := ⟨gb198, 0, none⟩) (Kd.S_types HO196.out BK198.out (by decide)) (fun _ hk => hk.2) (.slice Ao15 t194.length co15)) (fun _ hk => hk.2) (.bool t197)) (fun _ h_ => h_.1)))); (case side2 => exact (Kd.S_reads' HO196.out).2.1); rintro e w33 ⟨rfl, hb⟩; refine ⟨_, rfl, ?_⟩; have n0_ := Aside0.mk (Kd.S_below (by (with_reducible repeat (first | apply Kd.S_alloc | apply Kd.S_drewN | apply Kd.S_drew)); exact (Kd.S_mono (Kd.S_far (p := ⟨gb198, 1, none⟩) (Kd.S_far (p := ⟨gb198, 0, none⟩) (Kd.S_types HO196.out BK198.out (by decide)) (fun _ hk => hk.2) (.slice Ao15 t194.length co15)) (fun _ hk => hk.2) (.bool t197)) (fun _ h_ => h_.1))) hb); have n1_ := Aside0.mk (blk_below (g := gb191) (o := .cells #[.slice A0_0 l0_0.length c0_0, .bool a0_1] 24 (0, 0)) (by (with_reducible repeat (first | refine blk_drewN ?_ _ | refine blk_drew ?_ | refine blk_alloc ?_ _)); refine blk_far ?_ NB191_198.out _; (with_reducible repeat (first | refine blk_drewN ?_ _ | refine blk_drew ?_ | refine blk_alloc ?_ _)); refine blk_far ?_ NB191_198.out _; (with_reducible repeat (first | refine blk_drewN ?_ _ | refine blk_drew ?_ | refine blk_alloc ?_ _)); exact BK191.out) hb); have n2_ := Aside0.mk (blk_below (g := gb192) (o := .cells #[.int .i64 a1_0, .int .i64 a1_1, .int .i64 a1_2, .int .i64 a1_3, .int .i64 a1_4, .int .i64 a1_5] 26 (0, 0)) (by (with_reducible repeat (first | refine blk_drewN ?_ _ | refine blk_drew ?_ | refine blk_alloc ?_ _)); refine blk_far ?_ NB192_198.out _; (with_reducible repeat (first | refine blk_drewN ?_ _ | refine blk_drew ?_ | refine blk_alloc ?_ _)); refine blk_far ?_ NB192_198.out _; (with_reducible repeat (first | refine blk_drewN ?_ _ | refine blk_drew ?_ | refine blk_alloc ?_ _)); exact BK192.out) hb); have n3_ := Aside0.mk (blk_below (g := gb198) (o := .cells #[.slice Ao15 t194.length co15, .bool t197] 30 (0, 0)) (by (with_reducible repeat (first | refine blk_drewN ?_ _ | refine blk_drew ?_ | refine blk_alloc ?_ _)); refine blk_put (cs := #[.slice Ao15 t194.length co15, .bool false]) ?_ 1 _ rfl; (with_reducible repeat (first | refine blk_drewN ?_ _ | refine blk_drew ?_ | refine blk_alloc ?_ _)); refine blk_put (cs := #[.slice none 0 0, .bool false]) ?_ 0 _ rfl; (with_reducible repeat (first | refine blk_drewN ?_ _ | refine blk_drew ?_ | refine blk_alloc ?_ _)); exact BK198.out) hb); have n4_ := Aside0.mk (below_step (by repeat (first | (with_reducible first | exact HB.out | apply below_alloc | apply pw_below_drewN | apply below_drew1 | refine below_set ?_ GE191.out | refine below_set ?_ GE192.out | refine below_set ?_ GE198.out) | exact HB.out)) hb); clear HO196; clear BK191; clear BK192; clear BK198; clear HB; have HO196 := n0_; have BK191 := n1_; have BK192 := n2_; have BK198 := n3_; have HB := n4_; clear n0_ n1_ n2_ n3_ n4_; (try clear hb); (try clear hb2); (try clear hk); (try clear hi)))
        go_meet
        case rel => exact ⟨_, (true), (by first | rfl | (simp; done) | (simp [*]; done)), H', ⟨by first | omega | exact Nat.le_refl _⟩, ⟨by (with_reducible repeat (first | apply Kd.S_alloc | apply Kd.S_drewN | apply Kd.S_drew)); exact HO196.out⟩, ⟨by (with_reducible repeat (first | refine blk_drewN ?_ _ | refine blk_drew ?_ | refine blk_alloc ?_ _)); exact BK191.out⟩, ⟨by (with_reducible repeat (first | refine blk_drewN ?_ _ | refine blk_drew ?_ | refine blk_alloc ?_ _)); exact BK192.out⟩, ⟨by (with_reducible repeat (first | refine blk_drewN ?_ _ | refine blk_drew ?_ | refine blk_alloc ?_ _)); exact BK198.out⟩, ⟨by repeat (first | (with_reducible first | exact HB.out | apply below_alloc | apply pw_below_drewN | apply below_drew1 | refine below_set ?_ GE191.out | refine below_set ?_ GE192.out | refine below_set ?_ GE198.out) | exact HB.out)⟩⟩
    case rest =>
      clear HC6
      try clear c1
      try clear c2
      try clear p2
      try clear c3
      try clear c4
      try clear c9
      try clear c11
      try clear c12
      try clear c13
      try clear c16
      try clear c17
      try clear c20
      try clear c21
      try clear c22
      try clear c24
      try clear c28
      try clear c29
      try clear c31
      try clear hcz10_0
      try clear hcz10_1
      try clear hcz12_0
      try clear hcz12_1
      try clear hcz18_0
      try clear hcz18_1
      try clear hcz23_0
      try clear hcz23_1
      try clear hcz25_0
      try clear hcz25_1
      try clear hcz25_2
      try clear hcz25_3
      try clear hcz25_4
      try clear hcz25_5
      try clear hcz27_0
      try clear hcz27_1
      try clear hcz30_0
      try clear hcz30_1
      try clear hcz32_0
      try clear hcz32_1
      try clear hcz32_2
      try clear hcz32_3
      try clear hcz32_4
      try clear hcz32_5
      try clear hfz10_0
      try clear hfz10_1
      try clear hfz12_0
      try clear hfz12_1
      try clear hfz18_0
      try clear hfz18_1
      try clear hfz23_0
      try clear hfz23_1
      try clear hfz25_0
      try clear hfz25_1
      try clear hfz25_2
      try clear hfz25_3
      try clear hfz25_4
      try clear hfz25_5
      try clear hfz27_0
      try clear hfz27_1
      try clear hfz30_0
      try clear hfz30_1
      try clear hfz32_0
      try clear hfz32_1
      try clear hfz32_2
      try clear hfz32_3
      try clear hfz32_4
      try clear hfz32_5
      obtain ⟨kq, x23_5, rfl, HA, HJ5, HO_199000, BK191, BK192, BK198, HB⟩ := hcut
      cases kq with
      | zero => exact absurd HA.out (by simp [laws_FnQuestion.j0])
      | succ kj5 =>
        have H := HA.out
        clear HA
        simp only [laws_FnQuestion.j0] at H
        by_cases c34 : x23_5 = true
        · subst c34
          have H1 : (some true) = some r := by rw [if_pos rfl] at H; exact H
          clear H
          have H := H1
          clear H1
          obtain rfl := Option.some.inj H
          go_wp2
          go_ret
          exact ⟨by first | rfl | (simp [errW_none, errW_some] <;> rfl) | (simp [*, errW_none, errW_some] <;> rfl), by repeat (first | (with_reducible first | exact HB.out | apply below_alloc | apply pw_below_drewN | apply below_drew1 | refine below_set ?_ GE191.out | refine below_set ?_ GE192.out | refine below_set ?_ GE198.out) | exact HB.out)⟩
        · replace c34 := Bool.eq_false_iff.mpr c34
          subst c34
          have H1 : (laws_FnQuestion.l0 kj5 (⟨#[]⟩ : ByteArray) 1 a1_0 a1_1 a1_2 a1_3 a1_4 a1_5 t194 t197) = some r := by rw [if_neg (show ¬ (false = true) by decide)] at H; exact H
          clear H
          have H := H1
          clear H1
          have H' := Aside0.mk H
          clear H
          go_wp2
          go_loopg [6, 7] kj5 (fun kq v6 v7 w' => ∃ (x6_2 : ByteArray) (x7_2 : Int), v6 = .string x6_2 ∧ v7 = .int .i64 x7_2 ∧ Aside0 (laws_FnQuestion.l0 kq x6_2 x7_2 a1_0 a1_1 a1_2 a1_3 a1_4 a1_5 t194 t197 = some r) ∧ Aside0 (kq ≤ kj5) ∧ Aside0 (Kd.S (Kd.slice 38 k38) 36 w' w.heap.size (fun _ => True) (.slice Ao15 t194.length co15) t194) ∧ Aside0 (w'.heap[gb191]? = some (.cells #[(.slice A0_0 l0_0.length c0_0), .bool a0_1] 24 (0, 0))) ∧ Aside0 (w'.heap[gb192]? = some (.cells #[.int .i64 a1_0, .int .i64 a1_1, .int .i64 a1_2, .int .i64 a1_3, .int .i64 a1_4, .int .i64 a1_5] 26 (0, 0))) ∧ Aside0 (w'.heap[gb198]? = some (.cells #[(.slice Ao15 t194.length co15), .bool t197] 30 (0, 0))) ∧ Aside0 (Below w.heap.size w w'))
          case atStart => exact ⟨((⟨#[]⟩ : ByteArray)), (1), (by first | rfl | (simp; done) | (simp [*]; done)), (by first | rfl | (simp; done) | (simp [*]; done)), H', ⟨Nat.le_refl _⟩, ⟨by (with_reducible repeat (first | apply Kd.S_alloc | apply Kd.S_drewN | apply Kd.S_drew)); exact HO_199000.out⟩, ⟨by (with_reducible repeat (first | refine blk_drewN ?_ _ | refine blk_drew ?_ | refine blk_alloc ?_ _)); exact BK191.out⟩, ⟨by (with_reducible repeat (first | refine blk_drewN ?_ _ | refine blk_drew ?_ | refine blk_alloc ?_ _)); exact BK192.out⟩, ⟨by (with_reducible repeat (first | refine blk_drewN ?_ _ | refine blk_drew ?_ | refine blk_alloc ?_ _)); exact BK198.out⟩, ⟨by repeat (first | (with_reducible first | exact HB.out | apply below_alloc | apply pw_below_drewN | apply below_drew1 | refine below_set ?_ GE191.out | refine below_set ?_ GE192.out | refine below_set ?_ GE198.out) | exact HB.out)⟩⟩
          case round =>
            clear H'
            try clear c1
            try clear c2
            try clear p2
            try clear c3
            try clear c4
            try clear c9
            try clear c11
            try clear c12
            try clear c13
            try clear c16
            try clear c17
            try clear c20
            try clear c21
            try clear c22
            try clear c24
            try clear c28
            try clear c29
            try clear c31
            try clear c34
            try clear hcz10_0
            try clear hcz10_1
            try clear hcz12_0
            try clear hcz12_1
            try clear hcz18_0
            try clear hcz18_1
            try clear hcz23_0
            try clear hcz23_1
            try clear hcz25_0
            try clear hcz25_1
            try clear hcz25_2
            try clear hcz25_3
            try clear hcz25_4
            try clear hcz25_5
            try clear hcz27_0
            try clear hcz27_1
            try clear hcz30_0
            try clear hcz30_1
            try clear hcz32_0
            try clear hcz32_1
            try clear hcz32_2
            try clear hcz32_3
            try clear hcz32_4
            try clear hcz32_5
            try clear hfz10_0
            try clear hfz10_1
            try clear hfz12_0
            try clear hfz12_1
            try clear hfz18_0
            try clear hfz18_1
            try clear hfz23_0
            try clear hfz23_1
            try clear hfz25_0
            try clear hfz25_1
            try clear hfz25_2
            try clear hfz25_3
            try clear hfz25_4
            try clear hfz25_5
            try clear hfz27_0
            try clear hfz27_1
            try clear hfz30_0
            try clear hfz30_1
            try clear hfz32_0
            try clear hfz32_1
            try clear hfz32_2
            try clear hfz32_3
            try clear hfz32_4
            try clear hfz32_5
            try clear p2
            obtain ⟨x6_2, x7_2, rfl, rfl, HA, HK2, HO_199000, BK191, BK192, BK198, HB⟩ := hrel
            cases gk with
            | zero => exact absurd HA.out (by simp [laws_FnQuestion.l0])
            | succ k2 =>
              have H := HA.out
              clear HA
              simp only [laws_FnQuestion.l0] at H
              by_cases c35 : x7_2 ≤ 5
              · rw [if_pos c35] at H
                have c35b0 : decide (x7_2 ≤ 5) = true := decide_eq_true c35
                clear c35
                by_cases c36 : 0 ≤ x7_2
                · rw [if_pos c36] at H
                  have c36b0 : decide (0 ≤ x7_2) = true := decide_eq_true c36
                  clear c36
                  by_cases c37 : x7_2 < (t194.length : Int)
                  · rw [if_pos c37] at H
                    have c37b0 : decide (x7_2 < (t194.length : Int)) = true := decide_eq_true c37
                    clear c37
                    replace H := Option.bind_eq_some_iff.mp H
                    obtain ⟨t210, A380, H⟩ := H
                    replace H : (if t210.toList = ([42] : List UInt8) then (if x7_2 = 3 then (if 5 < (t194.length : Int) then ((spec_Star.f (rd_L5 t194 5)).bind fun t212 => (if t212 = true then (if x7_2 = 5 then (if 3 < (t194.length : Int) then ((spec_Star.f (rd_L5 t194 3)).bind fun t214 => (laws_FnQuestion.j2 k2 x6_2 x7_2 t210 (!t214) a1_0 a1_1 a1_2 a1_3 a1_4 a1_5 t194 t197)) else (none)) else (laws_FnQuestion.j2 k2 x6_2 x7_2 t210 false a1_0 a1_1 a1_2 a1_3 a1_4 a1_5 t194 t197)) else (laws_FnQuestion.j2 k2 x6_2 x7_2 t210 true a1_0 a1_1 a1_2 a1_3 a1_4 a1_5 t194 t197))) else (none)) else (if x7_2 = 5 then (if 3 < (t194.length : Int) then ((spec_Star.f (rd_L5 t194 3)).bind fun t216 => (laws_FnQuestion.j2 k2 x6_2 x7_2 t210 (!t216) a1_0 a1_1 a1_2 a1_3 a1_4 a1_5 t194 t197)) else (none)) else (laws_FnQuestion.j2 k2 x6_2 x7_2 t210 false a1_0 a1_1 a1_2 a1_3 a1_4 a1_5 t194 t197))) else (laws_FnQuestion.j2 k2 x6_2 x7_2 t210 false a1_0 a1_1 a1_2 a1_3 a1_4 a1_5 t194 t197)) = some r := H
                    have A38 := Aside0.mk A380
                    clear A380
                    have HC39 := Aside0.mk H
                    clear H
                    have hnb40 := NB198_191.out
                    have hnc40 := NB191_198.out
                    have hnb41 := NB198_192.out
                    have hnc41 := NB192_198.out
                    have hcz42_0 : wr.cell? ⟨gb198, 0, none⟩ = some (.slice Ao15 t194.length co15) := (blk_cell BK198.out 0).trans rfl
                    have hcz42_1 : wr.cell? ⟨gb198, 1, none⟩ = some (.bool t197) := (blk_cell BK198.out 1).trans rfl
                    have hfz42_0 := blk_frozen BK198.out 0
                    have hfz42_1 := blk_frozen BK198.out 1
                    have p209 : 0 ≤ (x7_2 : Int) := of_decide_eq_true (by first | (with_reducible assumption) | assumption)
                    have q209 : x7_2 < (t194.length : Int) := of_decide_eq_true (by first | (with_reducible assumption) | assumption)
                    obtain ⟨ad209, A209_0, c209_0, e209, hx209_0, hl209_0, hi209_0⟩ := at_L5 (Kd.S_reads' HO_199000.out).2.2 x7_2 p209 q209
                    cases e209
                    obtain ⟨ce209, hce209, hMe209, hcc209⟩ := Kd.S_get HO_199000.out [] x7_2 p209 (by first | exact q209 | exact of_decide_eq_true (by first | (with_reducible assumption) | assumption) | (have e_ := (Kd.S_reads' HO_199000.out).1; omega))
                    obtain ⟨ve209_0, rfl, ge209_0⟩ := hMe209
                    have hv209_0 := hcc209 0 _ rfl
                    rw [Nat.add_zero, show ((Kd.slice 38 k38)).sz = 1 from rfl, Nat.mul_one] at hv209_0
                    replace hv209_0 := Option.some.inj (hv209_0.symm.trans hx209_0)
                    rw [hv209_0] at ge209_0
                    have HL209_0 := Aside0.mk (show Kd.R k38 38 _ _ _ _ (rd_L5 t194 x7_2) from ge209_0)
                    clear hv209_0 ge209_0
                    clear hcc209 hce209
                    have HR209_0 := Aside0.mk hi209_0
                    have HC209_0 := Aside0.mk hl209_0
                    clear hi209_0 hl209_0
                    replace p209 := eq_true p209
                    replace q209 := eq_true q209
                    go_upto_region 11 with (first | ((with_reducible refine gate_callee (f := 16) rfl ?_); refine goesL_ (some 33) rfl rfl Tryz.func16 (by kernel_rfl) rfl #[.slice A209_0 (rd_L5 t194 x7_2).length c209_0] rfl (by (try simp only [List.map_toArray, List.map_cons, List.map_nil]); first | done | rfl | (simp only [List.length_drop, List.length_take]; rfl)) ?_; (with_reducible refine (spec_FieldText.calls k2 _ _ (rd_L5 t194 x7_2) t210 _ ?side1 ?side2 A38.out).mono ?_); (case side1 => repeat (first | exact (by repeat (first | (with_reducible exact HR209_0.out) | (with_reducible refine Kd.C_alloc ?_ _) | (with_reducible refine Kd.C_drewN ?_ _) | (with_reducible refine Kd.C_drew ?_) | exact HR209_0.out)) | (with_reducible refine Kd.C_alloc ?_ _) | (with_reducible refine Kd.C_drewN ?_ _) | (with_reducible refine Kd.C_drew ?_))); (case side2 => exact HC209_0.out); rintro e w43 ⟨rfl, hb⟩; refine ⟨_, rfl, ?_⟩; have n0_ := Aside0.mk (Kd.S_below (by (with_reducible repeat (first | apply Kd.S_alloc | apply Kd.S_drewN | apply Kd.S_drew)); exact HO_199000.out) hb); have n1_ := Aside0.mk (Kd.R_below (by (with_reducible repeat (first | apply Kd.R_alloc | apply Kd.R_drewN | apply Kd.R_drew)); exact HL209_0.out) hb); have n2_ := Aside0.mk (blk_below (g := gb191) (o := .cells #[.slice A0_0 l0_0.length c0_0, .bool a0_1] 24 (0, 0)) (by (with_reducible repeat (first | refine blk_drewN ?_ _ | refine blk_drew ?_ | refine blk_alloc ?_ _)); exact BK191.out) hb); have n3_ := Aside0.mk (blk_below (g := gb192) (o := .cells #[.int .i64 a1_0, .int .i64 a1_1, .int .i64 a1_2, .int .i64 a1_3, .int .i64 a1_4, .int .i64 a1_5] 26 (0, 0)) (by (with_reducible repeat (first | refine blk_drewN ?_ _ | refine blk_drew ?_ | refine blk_alloc ?_ _)); exact BK192.out) hb); have n4_ := Aside0.mk (blk_below (g := gb198) (o := .cells #[.slice (some ad209) t194.length co15, .bool t197] 30 (0, 0)) (by (with_reducible repeat (first | refine blk_drewN ?_ _ | refine blk_drew ?_ | refine blk_alloc ?_ _)); exact BK198.out) hb); have n5_ := Aside0.mk (Kd.C_below (by repeat (first | (with_reducible exact HR209_0.out) | (with_reducible refine Kd.C_alloc ?_ _) | (with_reducible refine Kd.C_drewN ?_ _) | (with_reducible refine Kd.C_drew ?_) | exact HR209_0.out)) hb); have n6_ := Aside0.mk (below_step (by repeat (first | (with_reducible first | exact HB.out | apply below_alloc | apply pw_below_drewN | apply below_drew1 | refine below_set ?_ GE191.out | refine below_set ?_ GE192.out | refine below_set ?_ GE198.out) | exact HB.out)) hb); clear HO_199000; clear HL209_0; clear BK191; clear BK192; clear BK198; clear HR209_0; clear HB; have HO_199000 := n0_; have HL209_0 := n1_; have BK191 := n2_; have BK192 := n3_; have BK198 := n4_; have HR209_0 := n5_; have HB := n6_; clear n0_ n1_ n2_ n3_ n4_ n5_ n6_; (try clear hb); (try clear hb2); (try clear hk); (try clear hi)))
                    (try simp only [Act.put, List.setIfInBounds_toArray, List.set_cons_zero, List.set_cons_succ])
                    go_cut [59] (fun v59 wc => ∃ (kq : Nat) (x59_38 : Bool), v59 = .bool x59_38 ∧ Aside0 (laws_FnQuestion.j2 kq x6_2 x7_2 t210 x59_38 a1_0 a1_1 a1_2 a1_3 a1_4 a1_5 t194 t197 = some r) ∧ Aside0 (kq ≤ k2) ∧ Aside0 (Kd.S (Kd.slice 38 k38) 36 wc w.heap.size (fun _ => True) (.slice (some ad209) t194.length co15) t194) ∧ Aside0 (wc.heap[gb191]? = some (.cells #[(.slice A0_0 l0_0.length c0_0), .bool a0_1] 24 (0, 0))) ∧ Aside0 (wc.heap[gb192]? = some (.cells #[.int .i64 a1_0, .int .i64 a1_1, .int .i64 a1_2, .int .i64 a1_3, .int .i64 a1_4, .int .i64 a1_5] 26 (0, 0))) ∧ Aside0 (wc.heap[gb198]? = some (.cells #[(.slice (some ad209) t194.length co15), .bool t197] 30 (0, 0))) ∧ Aside0 (Kd.C k38 wc A209_0 (rd_L5 t194 x7_2).length (rd_L5 t194 x7_2)) ∧ Aside0 (Below w.heap.size w wc))
                    case first =>
                      have H := HC39.out
                      clear HC39
                      by_cases c44 : t210.toList = ([42] : List UInt8)
                      · rw [if_pos c44] at H
                        have c44b0 : (t210.toList == ([42] : List UInt8)) = true := beq_iff_eq.mpr c44
                        have c44b1 : (t210.toList != ([42] : List UInt8)) = false := bne_eq_false_iff_eq.mpr c44
                        clear c44
                        (first | rw [c44b0] | (simp only [i64_w, i32_w]; rw [c44b0]) | skip)
                        by_cases c45 : x7_2 = 3
                        · rw [if_pos c45] at H
                          have c45b0 : (x7_2 == 3) = true := beq_iff_eq.mpr c45
                          have c45b1 : (x7_2 != 3) = false := bne_eq_false_iff_eq.mpr c45
                          clear c45
                          by_cases c46 : 5 < (t194.length : Int)
                          · rw [if_pos c46] at H
                            have c46b0 : decide (5 < (t194.length : Int)) = true := decide_eq_true c46
                            have c46b1 : decide (5 < t194.length) = true := decide_eq_true (by omega)
                            clear c46
                            replace H := Option.bind_eq_some_iff.mp H
                            obtain ⟨t212, A470, H⟩ := H
                            replace H : (if t212 = true then (if x7_2 = 5 then (if 3 < (t194.length : Int) then ((spec_Star.f (rd_L5 t194 3)).bind fun t214 => (laws_FnQuestion.j2 k2 x6_2 x7_2 t210 (!t214) a1_0 a1_1 a1_2 a1_3 a1_4 a1_5 t194 t197)) else (none)) else (laws_FnQuestion.j2 k2 x6_2 x7_2 t210 false a1_0 a1_1 a1_2 a1_3 a1_4 a1_5 t194 t197)) else (laws_FnQuestion.j2 k2 x6_2 x7_2 t210 true a1_0 a1_1 a1_2 a1_3 a1_4 a1_5 t194 t197)) = some r := H
                            have A47 := Aside0.mk A470
                            clear A470
                            by_cases c48 : t212 = true
                            · subst c48
                              have H1 : (if x7_2 = 5 then (if 3 < (t194.length : Int) then ((spec_Star.f (rd_L5 t194 3)).bind fun t214 => (laws_FnQuestion.j2 k2 x6_2 x7_2 t210 (!t214) a1_0 a1_1 a1_2 a1_3 a1_4 a1_5 t194 t197)) else (none)) else (laws_FnQuestion.j2 k2 x6_2 x7_2 t210 false a1_0 a1_1 a1_2 a1_3 a1_4 a1_5 t194 t197)) = some r := by rw [if_pos rfl] at H; exact H
                              clear H
                              have H := H1
                              clear H1
                              by_cases c49 : x7_2 = 5
                              · rw [if_pos c49] at H
                                have c49b0 : (x7_2 == 5) = true := beq_iff_eq.mpr c49
                                have c49b1 : (x7_2 != 5) = false := bne_eq_false_iff_eq.mpr c49
                                clear c49
                                by_cases c50 : 3 < (t194.length : Int)
                                · rw [if_pos c50] at H
                                  have c50b0 : decide (3 < (t194.length : Int)) = true := decide_eq_true c50
                                  have c50b1 : decide (3 < t194.length) = true := decide_eq_true (by omega)
                                  clear c50
                                  replace H := Option.bind_eq_some_iff.mp H
                                  obtain ⟨t214, A510, H⟩ := H
                                  replace H : (laws_FnQuestion.j2 k2 x6_2 x7_2 t210 (!t214) a1_0 a1_1 a1_2 a1_3 a1_4 a1_5 t194 t197) = some r := H
                                  have A51 := Aside0.mk A510
                                  clear A510
                                  have H' := Aside0.mk H
                                  clear H
                                  have hnb52 := NB198_191.out
                                  have hnc52 := NB191_198.out
                                  have hnb53 := NB198_192.out
                                  have hnc53 := NB192_198.out
                                  have hcz54_0 : w43.cell? ⟨gb198, 0, none⟩ = some (.slice (some ad209) t194.length co15) := (blk_cell BK198.out 0).trans rfl
                                  have hcz54_1 : w43.cell? ⟨gb198, 1, none⟩ = some (.bool t197) := (blk_cell BK198.out 1).trans rfl
                                  have hfz54_0 := blk_frozen BK198.out 0
                                  have hfz54_1 := blk_frozen BK198.out 1
                                  have p211 : 0 ≤ (5 : Int) := (by omega)
                                  have q211 : 5 < (t194.length : Int) := of_decide_eq_true (by first | (with_reducible assumption) | assumption)
                                  obtain ⟨ad211, A211_0, c211_0, e211, hx211_0, hl211_0, hi211_0⟩ := at_L5 (Kd.S_reads' HO_199000.out).2.2 5 p211 q211
                                  obtain rfl : ad209 = ad211 := (by injection e211)
                                  obtain ⟨ce211, hce211, hMe211, hcc211⟩ := Kd.S_get HO_199000.out [] 5 p211 (by first | exact q211 | exact of_decide_eq_true (by first | (with_reducible assumption) | assumption) | (have e_ := (Kd.S_reads' HO_199000.out).1; omega))
                                  obtain ⟨ve211_0, rfl, ge211_0⟩ := hMe211
                                  have hv211_0 := hcc211 0 _ rfl
                                  rw [Nat.add_zero, show ((Kd.slice 38 k38)).sz = 1 from rfl, Nat.mul_one] at hv211_0
                                  replace hv211_0 := Option.some.inj (hv211_0.symm.trans hx211_0)
                                  rw [hv211_0] at ge211_0
                                  have HL211_0 := Aside0.mk (show Kd.R k38 38 _ _ _ _ (rd_L5 t194 5) from ge211_0)
                                  clear hv211_0 ge211_0
                                  clear hcc211 hce211
                                  (try simp only [show (5 : Int).toNat = 5 from rfl, Nat.reduceMul, Nat.reduceEqDiff, Go.Addr.add, ↓reduceIte] at hx211_0)
                                  have qi211 : (5 < t194.length) = True := eq_true (by omega)
                                  (try rw [show ((5 : Int)).toNat = 5 from rfl] at hx211_0)
                                  have HR211_0 := Aside0.mk hi211_0
                                  have HC211_0 := Aside0.mk hl211_0
                                  clear hi211_0 hl211_0
                                  replace p211 := eq_true p211
                                  replace q211 := eq_true q211
                                  go_wp2_with (first | (go_at_call 17; (with_reducible refine (spec_Star.calls _ _ (rd_L5 t194 5) true _ ?side1 ?side2 A47.out).mono ?_); (case side1 => repeat (first | exact (by repeat (first | (with_reducible exact HR211_0.out) | (with_reducible refine Kd.C_alloc ?_ _) | (with_reducible refine Kd.C_drewN ?_ _) | (with_reducible refine Kd.C_drew ?_) | exact HR211_0.out)) | (with_reducible refine Kd.C_alloc ?_ _) | (with_reducible refine Kd.C_drewN ?_ _) | (with_reducible refine Kd.C_drew ?_))); (case side2 => exact HC211_0.out); rintro e w' ⟨rfl, ⟨nd, rfl⟩⟩; have p213 : 0 ≤ (3 : Int) := (by omega); have q213 : 3 < (t194.length : Int) := of_decide_eq_true (by first | (with_reducible assumption) | assumption); obtain ⟨ad213, A213_0, c213_0, e213, hx213_0, hl213_0, hi213_0⟩ := at_L5 (Kd.S_reads' HO_199000.out).2.2 3 p213 q213; obtain rfl : ad209 = ad213 := (by injection e213); obtain ⟨ce213, hce213, hMe213, hcc213⟩ := Kd.S_get HO_199000.out [] 3 p213 (by first | exact q213 | exact of_decide_eq_true (by first | (with_reducible assumption) | assumption) | (have e_ := (Kd.S_reads' HO_199000.out).1; omega)); obtain ⟨ve213_0, rfl, ge213_0⟩ := hMe213; have hv213_0 := hcc213 0 _ rfl; rw [Nat.add_zero, show ((Kd.slice 38 k38)).sz = 1 from rfl, Nat.mul_one] at hv213_0; replace hv213_0 := Option.some.inj (hv213_0.symm.trans hx213_0); rw [hv213_0] at ge213_0; have HL213_0 := Aside0.mk (show Kd.R k38 38 _ _ _ _ (rd_L5 t194 3) from ge213_0); clear hv213_0 ge213_0; clear hcc213 hce213; (try simp only [show (3 : Int).toNat = 3 from rfl, Nat.reduceMul, Nat.reduceEqDiff, Go.Addr.add, ↓reduceIte] at hx213_0); have qi213 : (3 < t194.length) = True := eq_true (by omega); (try rw [show ((3 : Int)).toNat = 3 from rfl] at hx213_0); have HR213_0 := Aside0.mk hi213_0; have HC213_0 := Aside0.mk hl213_0; clear hi213_0 hl213_0; replace p213 := eq_true p213; replace q213 := eq_true q213) | (go_at_call 17; (with_reducible refine (spec_Star.calls _ _ (rd_L5 t194 3) t214 _ ?side1 ?side2 A51.out).mono ?_); (case side1 => repeat (first | exact (by repeat (first | (with_reducible exact HR213_0.out) | (with_reducible refine Kd.C_alloc ?_ _) | (with_reducible refine Kd.C_drewN ?_ _) | (with_reducible refine Kd.C_drew ?_) | exact HR213_0.out)) | (with_reducible refine Kd.C_alloc ?_ _) | (with_reducible refine Kd.C_drewN ?_ _) | (with_reducible refine Kd.C_drew ?_))); (case side2 => exact HC213_0.out); rintro e w' ⟨rfl, ⟨nd, rfl⟩⟩))
                                  go_meet
                                  case rel => exact ⟨_, (!t214), (by first | rfl | (simp; done) | (simp [*]; done)), H', ⟨by have := HJ5.out; have := HK2.out; first | omega | exact Nat.le_refl _⟩, ⟨by (with_reducible repeat (first | apply Kd.S_alloc | apply Kd.S_drewN | apply Kd.S_drew)); exact HO_199000.out⟩, ⟨by (with_reducible repeat (first | refine blk_drewN ?_ _ | refine blk_drew ?_ | refine blk_alloc ?_ _)); exact BK191.out⟩, ⟨by (with_reducible repeat (first | refine blk_drewN ?_ _ | refine blk_drew ?_ | refine blk_alloc ?_ _)); exact BK192.out⟩, ⟨by (with_reducible repeat (first | refine blk_drewN ?_ _ | refine blk_drew ?_ | refine blk_alloc ?_ _)); exact BK198.out⟩, ⟨by repeat (first | (with_reducible exact HR209_0.out) | (with_reducible refine Kd.C_alloc ?_ _) | (with_reducible refine Kd.C_drewN ?_ _) | (with_reducible refine Kd.C_drew ?_) | exact HR209_0.out)⟩, ⟨by repeat (first | (with_reducible first | exact HB.out | apply below_alloc | apply pw_below_drewN | apply below_drew1 | refine below_set ?_ GE191.out | refine below_set ?_ GE192.out | refine below_set ?_ GE198.out) | exact HB.out)⟩⟩
                                · rw [if_neg c50] at H
                                  exact absurd H (by simp)
                              · rw [if_neg c49] at H
                                have c49b0 : (x7_2 == 5) = false := beq_eq_false_iff_ne.mpr c49
                                have c49b1 : (x7_2 != 5) = true := bne_iff_ne.mpr c49
                                have H' := Aside0.mk H
                                clear H
                                have hnb55 := NB198_191.out
                                have hnc55 := NB191_198.out
                                have hnb56 := NB198_192.out
                                have hnc56 := NB192_198.out
                                have hcz57_0 : w43.cell? ⟨gb198, 0, none⟩ = some (.slice (some ad209) t194.length co15) := (blk_cell BK198.out 0).trans rfl
                                have hcz57_1 : w43.cell? ⟨gb198, 1, none⟩ = some (.bool t197) := (blk_cell BK198.out 1).trans rfl
                                have hfz57_0 := blk_frozen BK198.out 0
                                have hfz57_1 := blk_frozen BK198.out 1
                                have p211 : 0 ≤ (5 : Int) := (by omega)
                                have q211 : 5 < (t194.length : Int) := of_decide_eq_true (by first | (with_reducible assumption) | assumption)
                                obtain ⟨ad211, A211_0, c211_0, e211, hx211_0, hl211_0, hi211_0⟩ := at_L5 (Kd.S_reads' HO_199000.out).2.2 5 p211 q211
                                obtain rfl : ad209 = ad211 := (by injection e211)
                                obtain ⟨ce211, hce211, hMe211, hcc211⟩ := Kd.S_get HO_199000.out [] 5 p211 (by first | exact q211 | exact of_decide_eq_true (by first | (with_reducible assumption) | assumption) | (have e_ := (Kd.S_reads' HO_199000.out).1; omega))
                                obtain ⟨ve211_0, rfl, ge211_0⟩ := hMe211
                                have hv211_0 := hcc211 0 _ rfl
                                rw [Nat.add_zero, show ((Kd.slice 38 k38)).sz = 1 from rfl, Nat.mul_one] at hv211_0
                                replace hv211_0 := Option.some.inj (hv211_0.symm.trans hx211_0)
                                rw [hv211_0] at ge211_0
                                have HL211_0 := Aside0.mk (show Kd.R k38 38 _ _ _ _ (rd_L5 t194 5) from ge211_0)
                                clear hv211_0 ge211_0
                                clear hcc211 hce211
                                (try simp only [show (5 : Int).toNat = 5 from rfl, Nat.reduceMul, Nat.reduceEqDiff, Go.Addr.add, ↓reduceIte] at hx211_0)
                                have qi211 : (5 < t194.length) = True := eq_true (by omega)
                                (try rw [show ((5 : Int)).toNat = 5 from rfl] at hx211_0)
                                have HR211_0 := Aside0.mk hi211_0
                                have HC211_0 := Aside0.mk hl211_0
                                clear hi211_0 hl211_0
                                replace p211 := eq_true p211
                                replace q211 := eq_true q211
                                go_wp2_with (first | (go_at_call 17; (with_reducible refine (spec_Star.calls _ _ (rd_L5 t194 5) true _ ?side1 ?side2 A47.out).mono ?_); (case side1 => repeat (first | exact (by repeat (first | (with_reducible exact HR211_0.out) | (with_reducible refine Kd.C_alloc ?_ _) | (with_reducible refine Kd.C_drewN ?_ _) | (with_reducible refine Kd.C_drew ?_) | exact HR211_0.out)) | (with_reducible refine Kd.C_alloc ?_ _) | (with_reducible refine Kd.C_drewN ?_ _) | (with_reducible refine Kd.C_drew ?_))); (case side2 => exact HC211_0.out); rintro e w' ⟨rfl, ⟨nd, rfl⟩⟩))
                                go_meet
                                case rel => exact ⟨_, (false), (by first | rfl | (simp; done) | (simp [*]; done)), H', ⟨by have := HJ5.out; have := HK2.out; first | omega | exact Nat.le_refl _⟩, ⟨by (with_reducible repeat (first | apply Kd.S_alloc | apply Kd.S_drewN | apply Kd.S_drew)); exact HO_199000.out⟩, ⟨by (with_reducible repeat (first | refine blk_drewN ?_ _ | refine blk_drew ?_ | refine blk_alloc ?_ _)); exact BK191.out⟩, ⟨by (with_reducible repeat (first | refine blk_drewN ?_ _ | refine blk_drew ?_ | refine blk_alloc ?_ _)); exact BK192.out⟩, ⟨by (with_reducible repeat (first | refine blk_drewN ?_ _ | refine blk_drew ?_ | refine blk_alloc ?_ _)); exact BK198.out⟩, ⟨by repeat (first | (with_reducible exact HR209_0.out) | (with_reducible refine Kd.C_alloc ?_ _) | (with_reducible refine Kd.C_drewN ?_ _) | (with_reducible refine Kd.C_drew ?_) | exact HR209_0.out)⟩, ⟨by repeat (first | (with_reducible first | exact HB.out | apply below_alloc | apply pw_below_drewN | apply below_drew1 | refine below_set ?_ GE191.out | refine below_set ?_ GE192.out | refine below_set ?_ GE198.out) | exact HB.out)⟩⟩
                            · replace c48 := Bool.eq_false_iff.mpr c48
                              subst c48
                              have H1 : (laws_FnQuestion.j2 k2 x6_2 x7_2 t210 true a1_0 a1_1 a1_2 a1_3 a1_4 a1_5 t194 t197) = some r := by rw [if_neg (show ¬ (false = true) by decide)] at H; exact H
                              clear H
                              have H := H1
                              clear H1
                              have H' := Aside0.mk H
                              clear H
                              have hnb58 := NB198_191.out
                              have hnc58 := NB191_198.out
                              have hnb59 := NB198_192.out
                              have hnc59 := NB192_198.out
                              have hcz60_0 : w43.cell? ⟨gb198, 0, none⟩ = some (.slice (some ad209) t194.length co15) := (blk_cell BK198.out 0).trans rfl
                              have hcz60_1 : w43.cell? ⟨gb198, 1, none⟩ = some (.bool t197) := (blk_cell BK198.out 1).trans rfl
                              have hfz60_0 := blk_frozen BK198.out 0
                              have hfz60_1 := blk_frozen BK198.out 1
                              have p211 : 0 ≤ (5 : Int) := (by omega)
                              have q211 : 5 < (t194.length : Int) := of_decide_eq_true (by first | (with_reducible assumption) | assumption)
                              obtain ⟨ad211, A211_0, c211_0, e211, hx211_0, hl211_0, hi211_0⟩ := at_L5 (Kd.S_reads' HO_199000.out).2.2 5 p211 q211
                              obtain rfl : ad209 = ad211 := (by injection e211)
                              obtain ⟨ce211, hce211, hMe211, hcc211⟩ := Kd.S_get HO_199000.out [] 5 p211 (by first | exact q211 | exact of_decide_eq_true (by first | (with_reducible assumption) | assumption) | (have e_ := (Kd.S_reads' HO_199000.out).1; omega))
                              obtain ⟨ve211_0, rfl, ge211_0⟩ := hMe211
                              have hv211_0 := hcc211 0 _ rfl
                              rw [Nat.add_zero, show ((Kd.slice 38 k38)).sz = 1 from rfl, Nat.mul_one] at hv211_0
                              replace hv211_0 := Option.some.inj (hv211_0.symm.trans hx211_0)
                              rw [hv211_0] at ge211_0
                              have HL211_0 := Aside0.mk (show Kd.R k38 38 _ _ _ _ (rd_L5 t194 5) from ge211_0)
                              clear hv211_0 ge211_0
                              clear hcc211 hce211
                              (try simp only [show (5 : Int).toNat = 5 from rfl, Nat.reduceMul, Nat.reduceEqDiff, Go.Addr.add, ↓reduceIte] at hx211_0)
                              have qi211 : (5 < t194.length) = True := eq_true (by omega)
                              (try rw [show ((5 : Int)).toNat = 5 from rfl] at hx211_0)
                              have HR211_0 := Aside0.mk hi211_0
                              have HC211_0 := Aside0.mk hl211_0
                              clear hi211_0 hl211_0
                              replace p211 := eq_true p211
                              replace q211 := eq_true q211
                              go_wp2_with (first | (go_at_call 17; (with_reducible refine (spec_Star.calls _ _ (rd_L5 t194 5) false _ ?side1 ?side2 A47.out).mono ?_); (case side1 => repeat (first | exact (by repeat (first | (with_reducible exact HR211_0.out) | (with_reducible refine Kd.C_alloc ?_ _) | (with_reducible refine Kd.C_drewN ?_ _) | (with_reducible refine Kd.C_drew ?_) | exact HR211_0.out)) | (with_reducible refine Kd.C_alloc ?_ _) | (with_reducible refine Kd.C_drewN ?_ _) | (with_reducible refine Kd.C_drew ?_))); (case side2 => exact HC211_0.out); rintro e w' ⟨rfl, ⟨nd, rfl⟩⟩))
                              go_meet
                              case rel => exact ⟨_, (true), (by first | rfl | (simp; done) | (simp [*]; done)), H', ⟨by have := HJ5.out; have := HK2.out; first | omega | exact Nat.le_refl _⟩, ⟨by (with_reducible repeat (first | apply Kd.S_alloc | apply Kd.S_drewN | apply Kd.S_drew)); exact HO_199000.out⟩, ⟨by (with_reducible repeat (first | refine blk_drewN ?_ _ | refine blk_drew ?_ | refine blk_alloc ?_ _)); exact BK191.out⟩, ⟨by (with_reducible repeat (first | refine blk_drewN ?_ _ | refine blk_drew ?_ | refine blk_alloc ?_ _)); exact BK192.out⟩, ⟨by (with_reducible repeat (first | refine blk_drewN ?_ _ | refine blk_drew ?_ | refine blk_alloc ?_ _)); exact BK198.out⟩, ⟨by repeat (first | (with_reducible exact HR209_0.out) | (with_reducible refine Kd.C_alloc ?_ _) | (with_reducible refine Kd.C_drewN ?_ _) | (with_reducible refine Kd.C_drew ?_) | exact HR209_0.out)⟩, ⟨by repeat (first | (with_reducible first | exact HB.out | apply below_alloc | apply pw_below_drewN | apply below_drew1 | refine below_set ?_ GE191.out | refine below_set ?_ GE192.out | refine below_set ?_ GE198.out) | exact HB.out)⟩⟩
                          · rw [if_neg c46] at H
                            exact absurd H (by simp)
                        · rw [if_neg c45] at H
                          have c45b0 : (x7_2 == 3) = false := beq_eq_false_iff_ne.mpr c45
                          have c45b1 : (x7_2 != 3) = true := bne_iff_ne.mpr c45
                          by_cases c61 : x7_2 = 5
                          · rw [if_pos c61] at H
                            have c61b0 : (x7_2 == 5) = true := beq_iff_eq.mpr c61
                            have c61b1 : (x7_2 != 5) = false := bne_eq_false_iff_eq.mpr c61
                            clear c61
                            by_cases c62 : 3 < (t194.length : Int)
                            · rw [if_pos c62] at H
                              have c62b0 : decide (3 < (t194.length : Int)) = true := decide_eq_true c62
                              have c62b1 : decide (3 < t194.length) = true := decide_eq_true (by omega)
                              clear c62
                              replace H := Option.bind_eq_some_iff.mp H
                              obtain ⟨t216, A630, H⟩ := H
                              replace H : (laws_FnQuestion.j2 k2 x6_2 x7_2 t210 (!t216) a1_0 a1_1 a1_2 a1_3 a1_4 a1_5 t194 t197) = some r := H
                              have A63 := Aside0.mk A630
                              clear A630
                              have H' := Aside0.mk H
                              clear H
                              have hnb64 := NB198_191.out
                              have hnc64 := NB191_198.out
                              have hnb65 := NB198_192.out
                              have hnc65 := NB192_198.out
                              have hcz66_0 : w43.cell? ⟨gb198, 0, none⟩ = some (.slice (some ad209) t194.length co15) := (blk_cell BK198.out 0).trans rfl
                              have hcz66_1 : w43.cell? ⟨gb198, 1, none⟩ = some (.bool t197) := (blk_cell BK198.out 1).trans rfl
                              have hfz66_0 := blk_frozen BK198.out 0
                              have hfz66_1 := blk_frozen BK198.out 1
                              have p215 : 0 ≤ (3 : Int) := (by omega)
                              have q215 : 3 < (t194.length : Int) := of_decide_eq_true (by first | (with_reducible assumption) | assumption)
                              obtain ⟨ad215, A215_0, c215_0, e215, hx215_0, hl215_0, hi215_0⟩ := at_L5 (Kd.S_reads' HO_199000.out).2.2 3 p215 q215
                              obtain rfl : ad209 = ad215 := (by injection e215)
                              obtain ⟨ce215, hce215, hMe215, hcc215⟩ := Kd.S_get HO_199000.out [] 3 p215 (by first | exact q215 | exact of_decide_eq_true (by first | (with_reducible assumption) | assumption) | (have e_ := (Kd.S_reads' HO_199000.out).1; omega))
                              obtain ⟨ve215_0, rfl, ge215_0⟩ := hMe215
                              have hv215_0 := hcc215 0 _ rfl
                              rw [Nat.add_zero, show ((Kd.slice 38 k38)).sz = 1 from rfl, Nat.mul_one] at hv215_0
                              replace hv215_0 := Option.some.inj (hv215_0.symm.trans hx215_0)
                              rw [hv215_0] at ge215_0
                              have HL215_0 := Aside0.mk (show Kd.R k38 38 _ _ _ _ (rd_L5 t194 3) from ge215_0)
                              clear hv215_0 ge215_0
                              clear hcc215 hce215
                              (try simp only [show (3 : Int).toNat = 3 from rfl, Nat.reduceMul, Nat.reduceEqDiff, Go.Addr.add, ↓reduceIte] at hx215_0)
                              have qi215 : (3 < t194.length) = True := eq_true (by omega)
                              (try rw [show ((3 : Int)).toNat = 3 from rfl] at hx215_0)
                              have HR215_0 := Aside0.mk hi215_0
                              have HC215_0 := Aside0.mk hl215_0
                              clear hi215_0 hl215_0
                              replace p215 := eq_true p215
                              replace q215 := eq_true q215
                              go_wp2_with (first | (go_at_call 17; (with_reducible refine (spec_Star.calls _ _ (rd_L5 t194 3) t216 _ ?side1 ?side2 A63.out).mono ?_); (case side1 => repeat (first | exact (by repeat (first | (with_reducible exact HR215_0.out) | (with_reducible refine Kd.C_alloc ?_ _) | (with_reducible refine Kd.C_drewN ?_ _) | (with_reducible refine Kd.C_drew ?_) | exact HR215_0.out)) | (with_reducible refine Kd.C_alloc ?_ _) | (with_reducible refine Kd.C_drewN ?_ _) | (with_reducible refine Kd.C_drew ?_))); (case side2 => exact HC215_0.out); rintro e w' ⟨rfl, ⟨nd, rfl⟩⟩))
                              go_meet
                              case rel => exact ⟨_, (!t216), (by first | rfl | (simp; done) | (simp [*]; done)), H', ⟨by have := HJ5.out; have := HK2.out; first | omega | exact Nat.le_refl _⟩, ⟨by (with_reducible repeat (first | apply Kd.S_alloc | apply Kd.S_drewN | apply Kd.S_drew)); exact HO_199000.out⟩, ⟨by (with_reducible repeat (first | refine blk_drewN ?_ _ | refine blk_drew ?_ | refine blk_alloc ?_ _)); exact BK191.out⟩, ⟨by (with_reducible repeat (first | refine blk_drewN ?_ _ | refine blk_drew ?_ | refine blk_alloc ?_ _)); exact BK192.out⟩, ⟨by (with_reducible repeat (first | refine blk_drewN ?_ _ | refine blk_drew ?_ | refine blk_alloc ?_ _)); exact BK198.out⟩, ⟨by repeat (first | (with_reducible exact HR209_0.out) | (with_reducible refine Kd.C_alloc ?_ _) | (with_reducible refine Kd.C_drewN ?_ _) | (with_reducible refine Kd.C_drew ?_) | exact HR209_0.out)⟩, ⟨by repeat (first | (with_reducible first | exact HB.out | apply below_alloc | apply pw_below_drewN | apply below_drew1 | refine below_set ?_ GE191.out | refine below_set ?_ GE192.out | refine below_set ?_ GE198.out) | exact HB.out)⟩⟩
                            · rw [if_neg c62] at H
                              exact absurd H (by simp)
                          · rw [if_neg c61] at H
                            have c61b0 : (x7_2 == 5) = false := beq_eq_false_iff_ne.mpr c61
                            have c61b1 : (x7_2 != 5) = true := bne_iff_ne.mpr c61
                            have H' := Aside0.mk H
                            clear H
                            go_wp2
                            go_meet
                            case rel => exact ⟨_, (false), (by first | rfl | (simp; done) | (simp [*]; done)), H', ⟨by have := HJ5.out; have := HK2.out; first | omega | exact Nat.le_refl _⟩, ⟨by (with_reducible repeat (first | apply Kd.S_alloc | apply Kd.S_drewN | apply Kd.S_drew)); exact HO_199000.out⟩, ⟨by (with_reducible repeat (first | refine blk_drewN ?_ _ | refine blk_drew ?_ | refine blk_alloc ?_ _)); exact BK191.out⟩, ⟨by (with_reducible repeat (first | refine blk_drewN ?_ _ | refine blk_drew ?_ | refine blk_alloc ?_ _)); exact BK192.out⟩, ⟨by (with_reducible repeat (first | refine blk_drewN ?_ _ | refine blk_drew ?_ | refine blk_alloc ?_ _)); exact BK198.out⟩, ⟨by repeat (first | (with_reducible exact HR209_0.out) | (with_reducible refine Kd.C_alloc ?_ _) | (with_reducible refine Kd.C_drewN ?_ _) | (with_reducible refine Kd.C_drew ?_) | exact HR209_0.out)⟩, ⟨by repeat (first | (with_reducible first | exact HB.out | apply below_alloc | apply pw_below_drewN | apply below_drew1 | refine below_set ?_ GE191.out | refine below_set ?_ GE192.out | refine below_set ?_ GE198.out) | exact HB.out)⟩⟩
                      · rw [if_neg c44] at H
                        have c44b0 : (t210.toList == ([42] : List UInt8)) = false := beq_eq_false_iff_ne.mpr c44
                        have c44b1 : (t210.toList != ([42] : List UInt8)) = true := bne_iff_ne.mpr c44
                        (first | rw [c44b0] | (simp only [i64_w, i32_w]; rw [c44b0]) | skip)
                        have H' := Aside0.mk H
                        clear H
                        go_wp2
                        go_meet
                        case rel => exact ⟨_, (false), (by first | rfl | (simp; done) | (simp [*]; done)), H', ⟨by have := HJ5.out; have := HK2.out; first | omega | exact Nat.le_refl _⟩, ⟨by (with_reducible repeat (first | apply Kd.S_alloc | apply Kd.S_drewN | apply Kd.S_drew)); exact HO_199000.out⟩, ⟨by (with_reducible repeat (first | refine blk_drewN ?_ _ | refine blk_drew ?_ | refine blk_alloc ?_ _)); exact BK191.out⟩, ⟨by (with_reducible repeat (first | refine blk_drewN ?_ _ | refine blk_drew ?_ | refine blk_alloc ?_ _)); exact BK192.out⟩, ⟨by (with_reducible repeat (first | refine blk_drewN ?_ _ | refine blk_drew ?_ | refine blk_alloc ?_ _)); exact BK198.out⟩, ⟨by repeat (first | (with_reducible exact HR209_0.out) | (with_reducible refine Kd.C_alloc ?_ _) | (with_reducible refine Kd.C_drewN ?_ _) | (with_reducible refine Kd.C_drew ?_) | exact HR209_0.out)⟩, ⟨by repeat (first | (with_reducible first | exact HB.out | apply below_alloc | apply pw_below_drewN | apply below_drew1 | refine below_set ?_ GE191.out | refine below_set ?_ GE192.out | refine below_set ?_ GE198.out) | exact HB.out)⟩⟩
                    case rest =>
                      clear HC39
                      try clear c1
                      try clear c2
                      try clear p2
                      try clear q2
                      try clear hx2
                      try clear qi2
                      try clear c3
                      try clear c4
                      try clear c5
                      try clear c6
                      try clear c9
                      try clear c11
                      try clear c12
                      try clear c13
                      try clear c16
                      try clear c17
                      try clear c20
                      try clear p20
                      try clear q20
                      try clear hx20
                      try clear c21
                      try clear p21
                      try clear q21
                      try clear hx21
                      try clear qi21
                      try clear c22
                      try clear c24
                      try clear c28
                      try clear c29
                      try clear c31
                      try clear c34
                      try clear c35
                      try clear c35b0
                      try clear c36
                      try clear c36b0
                      try clear c37
                      try clear c37b0
                      try clear c40
                      try clear c41
                      try clear c44
                      try clear c44b0
                      try clear c44b1
                      try clear c45
                      try clear c45b0
                      try clear c45b1
                      try clear c46
                      try clear c46b0
                      try clear c46b1
                      try clear c48
                      try clear c49
                      try clear c49b0
                      try clear c49b1
                      try clear c50
                      try clear c50b0
                      try clear c50b1
                      try clear c52
                      try clear c53
                      try clear c55
                      try clear c56
                      try clear c58
                      try clear c59
                      try clear c61
                      try clear c61b0
                      try clear c61b1
                      try clear c62
                      try clear c62b0
                      try clear c62b1
                      try clear c64
                      try clear c65
                      try clear hcz10_0
                      try clear hcz10_1
                      try clear hcz12_0
                      try clear hcz12_1
                      try clear hcz18_0
                      try clear hcz18_1
                      try clear hcz23_0
                      try clear hcz23_1
                      try clear hcz25_0
                      try clear hcz25_1
                      try clear hcz25_2
                      try clear hcz25_3
                      try clear hcz25_4
                      try clear hcz25_5
                      try clear hcz27_0
                      try clear hcz27_1
                      try clear hcz30_0
                      try clear hcz30_1
                      try clear hcz32_0
                      try clear hcz32_1
                      try clear hcz32_2
                      try clear hcz32_3
                      try clear hcz32_4
                      try clear hcz32_5
                      try clear hcz42_0
                      try clear hcz42_1
                      try clear hcz54_0
                      try clear hcz54_1
                      try clear hcz57_0
                      try clear hcz57_1
                      try clear hcz60_0
                      try clear hcz60_1
                      try clear hcz66_0
                      try clear hcz66_1
                      try clear hfz10_0
                      try clear hfz10_1
                      try clear hfz12_0
                      try clear hfz12_1
                      try clear hfz18_0
                      try clear hfz18_1
                      try clear hfz23_0
                      try clear hfz23_1
                      try clear hfz25_0
                      try clear hfz25_1
                      try clear hfz25_2
                      try clear hfz25_3
                      try clear hfz25_4
                      try clear hfz25_5
                      try clear hfz27_0
                      try clear hfz27_1
                      try clear hfz30_0
                      try clear hfz30_1
                      try clear hfz32_0
                      try clear hfz32_1
                      try clear hfz32_2
                      try clear hfz32_3
                      try clear hfz32_4
                      try clear hfz32_5
                      try clear hfz42_0
                      try clear hfz42_1
                      try clear hfz54_0
                      try clear hfz54_1
                      try clear hfz57_0
                      try clear hfz57_1
                      try clear hfz60_0
                      try clear hfz60_1
                      try clear hfz66_0
                      try clear hfz66_1
                      try clear hx209_0
                      try clear hx211_0
                      try clear hx213_0
                      try clear hx215_0
                      try clear p2
                      try clear p209
                      try clear p211
                      try clear p213
                      try clear p215
                      try clear q209
                      try clear q211
                      try clear q213
                      try clear q215
                      obtain ⟨kq, x59_38, rfl, HA, HJ38, HO_199000, BK191, BK192, BK198, HR209_0, HB⟩ := hcut
                      cases kq with
                      | zero => exact absurd HA.out (by simp [laws_FnQuestion.j2])
                      | succ kj38 =>
                        have H := HA.out
                        clear HA
                        simp only [laws_FnQuestion.j2] at H
                        by_cases c67 : x59_38 = true
                        · subst c67
                          have H1 : (if x7_2 > 1 then (if x6_2.size + 1 ≤ 9223372036854775807 then (if (x6_2 ++ (⟨#[32]⟩ : ByteArray)).size + 1 ≤ 9223372036854775807 then (laws_FnQuestion.l0 kj38 ((x6_2 ++ (⟨#[32]⟩ : ByteArray)) ++ (⟨#[63]⟩ : ByteArray)) (wrap64 (x7_2 + 1)) a1_0 a1_1 a1_2 a1_3 a1_4 a1_5 t194 t197) else (none)) else (none)) else (if x6_2.size + 1 ≤ 9223372036854775807 then (laws_FnQuestion.l0 kj38 (x6_2 ++ (⟨#[63]⟩ : ByteArray)) (wrap64 (x7_2 + 1)) a1_0 a1_1 a1_2 a1_3 a1_4 a1_5 t194 t197) else (none))) = some r := by rw [if_pos rfl] at H; exact H
                          clear H
                          have H := H1
                          clear H1
                          by_cases c68 : x7_2 > 1
                          · rw [if_pos c68] at H
                            have c68b0 : decide (1 < x7_2) = true := decide_eq_true c68
                            clear c68
                            by_cases c69 : x6_2.size + 1 ≤ 9223372036854775807
                            · rw [if_pos c69] at H
                              have c69b0 := eq_true c69
                              have c69b1 : decide (x6_2.size + 1 ≤ 9223372036854775807) = true := decide_eq_true c69
                              try have c69b2 : (9223372036854775807 < x6_2.size + 1) = False := eq_false (Nat.not_lt.2 c69)
                              by_cases c70 : (x6_2 ++ (⟨#[32]⟩ : ByteArray)).size + 1 ≤ 9223372036854775807
                              · rw [if_pos c70] at H
                                have c70b0 := eq_true c70
                                have c70b1 : decide ((x6_2 ++ (⟨#[32]⟩ : ByteArray)).size + 1 ≤ 9223372036854775807) = true := decide_eq_true c70
                                try have c70b2 : (9223372036854775807 < (x6_2 ++ (⟨#[32]⟩ : ByteArray)).size + 1) = False := eq_false (Nat.not_lt.2 c70)
                                (try have c70b3 : (9223372036854775807 < (x6_2.size + 1) + 1) = False := eq_false (Nat.not_lt.2 (by have h_ := c70; (try simp only [ByteArray.size_append] at h_); exact h_)))
                                have H' := Aside0.mk H
                                clear H
                                go_wp2
                                go_roundg kj38
                                case measure => have := HJ5.out; have := HK2.out; have := HJ38.out; omega
                                case rel => exact ⟨((x6_2 ++ (⟨#[32]⟩ : ByteArray)) ++ (⟨#[63]⟩ : ByteArray)), (wrap64 (x7_2 + 1)), (by first | rfl | (simp; done) | (simp [*]; done)), (by first | rfl | (simp; done) | (simp [*]; done)), H', ⟨by have := HJ5.out; have := HK2.out; have := HJ38.out; omega⟩, ⟨by (with_reducible repeat (first | apply Kd.S_alloc | apply Kd.S_drewN | apply Kd.S_drew)); exact HO_199000.out⟩, ⟨by (with_reducible repeat (first | refine blk_drewN ?_ _ | refine blk_drew ?_ | refine blk_alloc ?_ _)); exact BK191.out⟩, ⟨by (with_reducible repeat (first | refine blk_drewN ?_ _ | refine blk_drew ?_ | refine blk_alloc ?_ _)); exact BK192.out⟩, ⟨by (with_reducible repeat (first | refine blk_drewN ?_ _ | refine blk_drew ?_ | refine blk_alloc ?_ _)); exact BK198.out⟩, ⟨by repeat (first | (with_reducible first | exact HB.out | apply below_alloc | apply pw_below_drewN | apply below_drew1 | refine below_set ?_ GE191.out | refine below_set ?_ GE192.out | refine below_set ?_ GE198.out) | exact HB.out)⟩⟩
                              · rw [if_neg c70] at H
                                exact absurd H (by simp)
                            · rw [if_neg c69] at H
                              exact absurd H (by simp)
                          · rw [if_neg c68] at H
                            have c68b0 : decide (1 < x7_2) = false := decide_eq_false c68
                            clear c68
                            by_cases c71 : x6_2.size + 1 ≤ 9223372036854775807
                            · rw [if_pos c71] at H
                              have c71b0 := eq_true c71
                              have c71b1 : decide (x6_2.size + 1 ≤ 9223372036854775807) = true := decide_eq_true c71
                              try have c71b2 : (9223372036854775807 < x6_2.size + 1) = False := eq_false (Nat.not_lt.2 c71)
                              have H' := Aside0.mk H
                              clear H
                              go_wp2
                              go_roundg kj38
                              case measure => have := HJ5.out; have := HK2.out; have := HJ38.out; omega
                              case rel => exact ⟨(x6_2 ++ (⟨#[63]⟩ : ByteArray)), (wrap64 (x7_2 + 1)), (by first | rfl | (simp; done) | (simp [*]; done)), (by first | rfl | (simp; done) | (simp [*]; done)), H', ⟨by have := HJ5.out; have := HK2.out; have := HJ38.out; omega⟩, ⟨by (with_reducible repeat (first | apply Kd.S_alloc | apply Kd.S_drewN | apply Kd.S_drew)); exact HO_199000.out⟩, ⟨by (with_reducible repeat (first | refine blk_drewN ?_ _ | refine blk_drew ?_ | refine blk_alloc ?_ _)); exact BK191.out⟩, ⟨by (with_reducible repeat (first | refine blk_drewN ?_ _ | refine blk_drew ?_ | refine blk_alloc ?_ _)); exact BK192.out⟩, ⟨by (with_reducible repeat (first | refine blk_drewN ?_ _ | refine blk_drew ?_ | refine blk_alloc ?_ _)); exact BK198.out⟩, ⟨by repeat (first | (with_reducible first | exact HB.out | apply below_alloc | apply pw_below_drewN | apply below_drew1 | refine below_set ?_ GE191.out | refine below_set ?_ GE192.out | refine below_set ?_ GE198.out) | exact HB.out)⟩⟩
                            · rw [if_neg c71] at H
                              exact absurd H (by simp)
                        · replace c67 := Bool.eq_false_iff.mpr c67
                          subst c67
                          have H1 : (if x7_2 > 1 then (if x6_2.size + 1 ≤ 9223372036854775807 then (if (x6_2 ++ (⟨#[32]⟩ : ByteArray)).size + t210.size ≤ 9223372036854775807 then (laws_FnQuestion.l0 kj38 ((x6_2 ++ (⟨#[32]⟩ : ByteArray)) ++ t210) (wrap64 (x7_2 + 1)) a1_0 a1_1 a1_2 a1_3 a1_4 a1_5 t194 t197) else (none)) else (none)) else (if x6_2.size + t210.size ≤ 9223372036854775807 then (laws_FnQuestion.l0 kj38 (x6_2 ++ t210) (wrap64 (x7_2 + 1)) a1_0 a1_1 a1_2 a1_3 a1_4 a1_5 t194 t197) else (none))) = some r := by rw [if_neg (show ¬ (false = true) by decide)] at H; exact H
                          clear H
                          have H := H1
                          clear H1
                          by_cases c72 : x7_2 > 1
                          · rw [if_pos c72] at H
                            have c72b0 : decide (1 < x7_2) = true := decide_eq_true c72
                            clear c72
                            by_cases c73 : x6_2.size + 1 ≤ 9223372036854775807
                            · rw [if_pos c73] at H
                              have c73b0 := eq_true c73
                              have c73b1 : decide (x6_2.size + 1 ≤ 9223372036854775807) = true := decide_eq_true c73
                              try have c73b2 : (9223372036854775807 < x6_2.size + 1) = False := eq_false (Nat.not_lt.2 c73)
                              by_cases c74 : (x6_2 ++ (⟨#[32]⟩ : ByteArray)).size + t210.size ≤ 9223372036854775807
                              · rw [if_pos c74] at H
                                have c74b0 := eq_true c74
                                have c74b1 : decide ((x6_2 ++ (⟨#[32]⟩ : ByteArray)).size + t210.size ≤ 9223372036854775807) = true := decide_eq_true c74
                                try have c74b2 : (9223372036854775807 < (x6_2 ++ (⟨#[32]⟩ : ByteArray)).size + t210.size) = False := eq_false (Nat.not_lt.2 c74)
                                (try have c74b3 : (9223372036854775807 < (x6_2.size + 1) + t210.size) = False := eq_false (Nat.not_lt.2 (by have h_ := c74; (try simp only [ByteArray.size_append] at h_); exact h_)))
                                have H' := Aside0.mk H
                                clear H
                                go_wp2
                                go_roundg kj38
                                case measure => have := HJ5.out; have := HK2.out; have := HJ38.out; omega
                                case rel => exact ⟨((x6_2 ++ (⟨#[32]⟩ : ByteArray)) ++ t210), (wrap64 (x7_2 + 1)), (by first | rfl | (simp; done) | (simp [*]; done)), (by first | rfl | (simp; done) | (simp [*]; done)), H', ⟨by have := HJ5.out; have := HK2.out; have := HJ38.out; omega⟩, ⟨by (with_reducible repeat (first | apply Kd.S_alloc | apply Kd.S_drewN | apply Kd.S_drew)); exact HO_199000.out⟩, ⟨by (with_reducible repeat (first | refine blk_drewN ?_ _ | refine blk_drew ?_ | refine blk_alloc ?_ _)); exact BK191.out⟩, ⟨by (with_reducible repeat (first | refine blk_drewN ?_ _ | refine blk_drew ?_ | refine blk_alloc ?_ _)); exact BK192.out⟩, ⟨by (with_reducible repeat (first | refine blk_drewN ?_ _ | refine blk_drew ?_ | refine blk_alloc ?_ _)); exact BK198.out⟩, ⟨by repeat (first | (with_reducible first | exact HB.out | apply below_alloc | apply pw_below_drewN | apply below_drew1 | refine below_set ?_ GE191.out | refine below_set ?_ GE192.out | refine below_set ?_ GE198.out) | exact HB.out)⟩⟩
                              · rw [if_neg c74] at H
                                exact absurd H (by simp)
                            · rw [if_neg c73] at H
                              exact absurd H (by simp)
                          · rw [if_neg c72] at H
                            have c72b0 : decide (1 < x7_2) = false := decide_eq_false c72
                            clear c72
                            by_cases c75 : x6_2.size + t210.size ≤ 9223372036854775807
                            · rw [if_pos c75] at H
                              have c75b0 := eq_true c75
                              have c75b1 : decide (x6_2.size + t210.size ≤ 9223372036854775807) = true := decide_eq_true c75
                              try have c75b2 : (9223372036854775807 < x6_2.size + t210.size) = False := eq_false (Nat.not_lt.2 c75)
                              have H' := Aside0.mk H
                              clear H
                              go_wp2
                              go_roundg kj38
                              case measure => have := HJ5.out; have := HK2.out; have := HJ38.out; omega
                              case rel => exact ⟨(x6_2 ++ t210), (wrap64 (x7_2 + 1)), (by first | rfl | (simp; done) | (simp [*]; done)), (by first | rfl | (simp; done) | (simp [*]; done)), H', ⟨by have := HJ5.out; have := HK2.out; have := HJ38.out; omega⟩, ⟨by (with_reducible repeat (first | apply Kd.S_alloc | apply Kd.S_drewN | apply Kd.S_drew)); exact HO_199000.out⟩, ⟨by (with_reducible repeat (first | refine blk_drewN ?_ _ | refine blk_drew ?_ | refine blk_alloc ?_ _)); exact BK191.out⟩, ⟨by (with_reducible repeat (first | refine blk_drewN ?_ _ | refine blk_drew ?_ | refine blk_alloc ?_ _)); exact BK192.out⟩, ⟨by (with_reducible repeat (first | refine blk_drewN ?_ _ | refine blk_drew ?_ | refine blk_alloc ?_ _)); exact BK198.out⟩, ⟨by repeat (first | (with_reducible first | exact HB.out | apply below_alloc | apply pw_below_drewN | apply below_drew1 | refine below_set ?_ GE191.out | refine below_set ?_ GE192.out | refine below_set ?_ GE198.out) | exact HB.out)⟩⟩
                            · rw [if_neg c75] at H
                              exact absurd H (by simp)
                  · rw [if_neg c37] at H
                    exact absurd H (by simp)
                · rw [if_neg c36] at H
                  exact absurd H (by simp)
              · rw [if_neg c35] at H
                have c35b0 : decide (x7_2 ≤ 5) = false := decide_eq_false c35
                clear c35
                replace H := Option.bind_eq_some_iff.mp H
                obtain ⟨⟨t200, t201⟩, A760, H⟩ := H
                replace H : (if t201 = true then ((laws_moment.f a1_0 a1_1 a1_2 a1_3 a1_4 a1_5).bind fun bt202 => ((spec_Fits.f k2 t194 t197 bt202.1 bt202.2.1 bt202.2.2.1 bt202.2.2.2.1 bt202.2.2.2.2.1 bt202.2.2.2.2.2).bind fun t208 => (some (t200 == t208)))) else (some false)) = some r := H
                have A76 := Aside0.mk A760
                clear A760
                by_cases c77 : t201 = true
                · subst c77
                  have H1 : ((laws_moment.f a1_0 a1_1 a1_2 a1_3 a1_4 a1_5).bind fun bt202 => ((spec_Fits.f k2 t194 t197 bt202.1 bt202.2.1 bt202.2.2.1 bt202.2.2.2.1 bt202.2.2.2.2.1 bt202.2.2.2.2.2).bind fun t208 => (some (t200 == t208)))) = some r := by rw [if_pos rfl] at H; exact H
                  clear H
                  have H := H1
                  clear H1
                  replace H := Option.bind_eq_some_iff.mp H
                  obtain ⟨⟨t202, t203, t204, t205, t206, t207⟩, A780, H⟩ := H
                  replace H : ((spec_Fits.f k2 t194 t197 t202 t203 t204 t205 t206 t207).bind fun t208 => (some (t200 == t208))) = some r := H
                  have A78 := Aside0.mk A780
                  clear A780
                  replace H := Option.bind_eq_some_iff.mp H
                  obtain ⟨t208, A790, H⟩ := H
                  replace H : (some (t200 == t208)) = some r := H
                  have A79 := Aside0.mk A790
                  clear A790
                  obtain rfl := Option.some.inj H
                  have hnb80 := NB192_191.out
                  have hnc80 := NB191_192.out
                  have hnb81 := NB192_198.out
                  have hnc81 := NB198_192.out
                  have hcz82_0 : wr.cell? ⟨gb192, 0, none⟩ = some (.int .i64 a1_0) := (blk_cell BK192.out 0).trans rfl
                  have hcz82_1 : wr.cell? ⟨gb192, 1, none⟩ = some (.int .i64 a1_1) := (blk_cell BK192.out 1).trans rfl
                  have hcz82_2 : wr.cell? ⟨gb192, 2, none⟩ = some (.int .i64 a1_2) := (blk_cell BK192.out 2).trans rfl
                  have hcz82_3 : wr.cell? ⟨gb192, 3, none⟩ = some (.int .i64 a1_3) := (blk_cell BK192.out 3).trans rfl
                  have hcz82_4 : wr.cell? ⟨gb192, 4, none⟩ = some (.int .i64 a1_4) := (blk_cell BK192.out 4).trans rfl
                  have hcz82_5 : wr.cell? ⟨gb192, 5, none⟩ = some (.int .i64 a1_5) := (blk_cell BK192.out 5).trans rfl
                  have hfz82_0 := blk_frozen BK192.out 0
                  have hfz82_1 := blk_frozen BK192.out 1
                  have hfz82_2 := blk_frozen BK192.out 2
                  have hfz82_3 := blk_frozen BK192.out 3
                  have hfz82_4 := blk_frozen BK192.out 4
                  have hfz82_5 := blk_frozen BK192.out 5
                  try go_wp2_with (first | ((with_reducible refine gate_callee (f := 14) rfl ?_); refine goesL_ (some 70) rfl rfl Tryz.func14 (by kernel_rfl) rfl #[.string x6_2, .agg #[.int .i64 a1_0, .int .i64 a1_1, .int .i64 a1_2, .int .i64 a1_3, .int .i64 a1_4, .int .i64 a1_5]] rfl (by (try simp only [List.map_toArray, List.map_cons, List.map_nil]); first | done | rfl | (simp only [List.length_drop, List.length_take]; rfl)) ?_; (with_reducible refine (impl_Due.calls x6_2 a1_0 a1_1 a1_2 a1_3 a1_4 a1_5 t200 true _ A76.out).mono ?_); rintro e w83 ⟨rfl, hb⟩; refine ⟨_, rfl, ?_⟩; have n0_ := Aside0.mk (Kd.S_below (by (with_reducible repeat (first | apply Kd.S_alloc | apply Kd.S_drewN | apply Kd.S_drew)); exact HO_199000.out) hb); have n1_ := Aside0.mk (blk_below (g := gb191) (o := .cells #[.slice A0_0 l0_0.length c0_0, .bool a0_1] 24 (0, 0)) (by (with_reducible repeat (first | refine blk_drewN ?_ _ | refine blk_drew ?_ | refine blk_alloc ?_ _)); exact BK191.out) hb); have n2_ := Aside0.mk (blk_below (g := gb192) (o := .cells #[.int .i64 a1_0, .int .i64 a1_1, .int .i64 a1_2, .int .i64 a1_3, .int .i64 a1_4, .int .i64 a1_5] 26 (0, 0)) (by (with_reducible repeat (first | refine blk_drewN ?_ _ | refine blk_drew ?_ | refine blk_alloc ?_ _)); exact BK192.out) hb); have n3_ := Aside0.mk (blk_below (g := gb198) (o := .cells #[.slice Ao15 t194.length co15, .bool t197] 30 (0, 0)) (by (with_reducible repeat (first | refine blk_drewN ?_ _ | refine blk_drew ?_ | refine blk_alloc ?_ _)); exact BK198.out) hb); have n4_ := Aside0.mk (below_step (by repeat (first | (with_reducible first | exact HB.out | apply below_alloc | apply pw_below_drewN | apply below_drew1 | refine below_set ?_ GE191.out | refine below_set ?_ GE192.out | refine below_set ?_ GE198.out) | exact HB.out)) hb); clear HO_199000; clear BK191; clear BK192; clear BK198; clear HB; have HO_199000 := n0_; have BK191 := n1_; have BK192 := n2_; have BK198 := n3_; have HB := n4_; clear n0_ n1_ n2_ n3_ n4_; (try clear hb); (try clear hb2); (try clear hk); (try clear hi)))
                  have n0_ := Aside0.mk (Kd.S_drew HO_199000.out)
                  have n1_ := Aside0.mk (blk_drew BK191.out)
                  have n2_ := Aside0.mk (blk_drew BK192.out)
                  have n3_ := Aside0.mk (blk_drew BK198.out)
                  have n4_ := Aside0.mk (below_drew1 HB.out)
                  clear HO_199000
                  clear BK191
                  clear BK192
                  clear BK198
                  clear HB
                  have HO_199000 := n0_
                  have BK191 := n1_
                  have BK192 := n2_
                  have BK198 := n3_
                  have HB := n4_
                  clear n0_ n1_ n2_ n3_ n4_
                  refine start_ (n := 10) (S := fun w' => w'.cell? ⟨gb198, 0, none⟩ = some (.slice Ao15 t194.length co15) ∧ w'.cell? ⟨gb198, 1, none⟩ = some (.bool t197) ∧ w'.cell? ⟨gb192, 0, none⟩ = some (.int .i64 a1_0) ∧ w'.cell? ⟨gb192, 1, none⟩ = some (.int .i64 a1_1) ∧ w'.cell? ⟨gb192, 2, none⟩ = some (.int .i64 a1_2) ∧ w'.cell? ⟨gb192, 3, none⟩ = some (.int .i64 a1_3) ∧ w'.cell? ⟨gb192, 4, none⟩ = some (.int .i64 a1_4) ∧ w'.cell? ⟨gb192, 5, none⟩ = some (.int .i64 a1_5)) (ds := []) #[false, false, false, false, false, false, false, false, false, false] (by kernel_rfl) rfl rfl ⟨(blk_cell BK198.out 0).trans rfl, (blk_cell BK198.out 1).trans rfl, (blk_cell BK192.out 0).trans rfl, (blk_cell BK192.out 1).trans rfl, (blk_cell BK192.out 2).trans rfl, (blk_cell BK192.out 3).trans rfl, (blk_cell BK192.out 4).trans rfl, (blk_cell BK192.out 5).trans rfl⟩ (fun hHeld => ?_); refine with_tabW laws_FnQuestion.tab17 laws_FnQuestion.bits17 (fun HT_ HW_ => ?_)
                  generalize w83.drew = w84 at HO_199000 BK191 BK192 BK198 HB hHeld ⊢
                  refine pure_ (i := 0) (N := some 73) (v := ?_) (a' := ?_) #[true, false, false, false, false, false, false, false, false, false] rfl rfl (any_of HT_.out (by kernel_rfl)) (fun _ _ _ h => h) (Or.inl ⟨by rfl, ?_⟩) ?_ ?_
                  rotate_left
                  · intro w'
                    go_simp
                    with_reducible rfl
                  rotate_left
                  · simp only [Act.put, List.setIfInBounds_toArray, List.set_cons_zero, List.set_cons_succ, i64_w, i32_w]
                    rfl
                  refine pure_ (i := 1) (N := some 74) (v := ?_) (a' := ?_) #[true, true, false, false, false, false, false, false, false, false] rfl rfl (any_of HT_.out (by kernel_rfl)) (fun _ _ _ h => h) (Or.inl ⟨by rfl, ?_⟩) ?_ ?_
                  rotate_left
                  · intro w'
                    go_simp
                    with_reducible rfl
                  rotate_left
                  · simp only [Act.put, List.setIfInBounds_toArray, List.set_cons_zero, List.set_cons_succ, i64_w, i32_w]
                    rfl
                  refine pure_ (i := 2) (N := some 75) (v := ?_) (a' := ?_) #[true, true, true, false, false, false, false, false, false, false] rfl rfl (any_of HT_.out (by kernel_rfl)) (fun _ _ _ h => h) (Or.inl ⟨by rfl, ?_⟩) ?_ ?_
                  rotate_left
                  · intro w'
                    go_simp
                    with_reducible rfl
                  rotate_left
                  · simp only [Act.put, List.setIfInBounds_toArray, List.set_cons_zero, List.set_cons_succ, i64_w, i32_w]
                    rfl
                  refine take_ (i := 3) (N := some 76) (v := ?_) (a' := ?_) #[true, true, true, true, false, false, false, false, false, false] rfl rfl (take_ofW HT_.out HW_.out (by kernel_rfl)) (fun _ _ _ h => h) (Or.inl ⟨by rfl, ?_⟩) hHeld ?_ ?_
                  rotate_left
                  · rintro w' ⟨s0, s1, s2, s3, s4, s5, s6, s7⟩
                    go_simp
                    with_reducible rfl
                  rotate_left
                  · simp only [Act.put, List.setIfInBounds_toArray, List.set_cons_zero, List.set_cons_succ, i64_w, i32_w]
                    rfl
                  refine take_ (i := 4) (N := some 77) (v := ?_) (a' := ?_) #[true, true, true, true, true, false, false, false, false, false] rfl rfl (take_ofW HT_.out HW_.out (by kernel_rfl)) (fun _ _ _ h => h) (Or.inl ⟨by rfl, ?_⟩) hHeld ?_ ?_
                  rotate_left
                  · rintro w' ⟨s0, s1, s2, s3, s4, s5, s6, s7⟩
                    go_simp
                    with_reducible rfl
                  rotate_left
                  · simp only [Act.put, List.setIfInBounds_toArray, List.set_cons_zero, List.set_cons_succ, i64_w, i32_w]
                    rfl
                  refine one_ (i := 5) (N := some 78) #[true, true, true, true, true, true, false, false, false, false] rfl rfl (one_of HT_.out (by kernel_rfl)) (by decide) (fun K hK => ?_)
                  refine goes_ Tryz.func19 (by kernel_rfl) rfl #[.agg #[.int .i64 a1_0, .int .i64 a1_1, .int .i64 a1_2, .int .i64 a1_3, .int .i64 a1_4, .int .i64 a1_5]] (by rfl) rfl rfl (by (try simp only [List.map_toArray, List.map_cons, List.map_nil]); first | done | rfl | (simp only [List.length_drop, List.length_take]; rfl)) ?_
                  with_reducible refine (laws_moment.calls a1_0 a1_1 a1_2 a1_3 a1_4 a1_5 t202 t203 t204 t205 t206 t207 _ A78.out).mono ?_
                  rintro e w85 ⟨rfl, hb⟩
                  refine ⟨_, rfl, ?_⟩
                  have n0_ := Aside0.mk (Kd.S_below (by (with_reducible repeat (first | apply Kd.S_alloc | apply Kd.S_drewN | apply Kd.S_drew)); exact HO_199000.out) hb)
                  have n1_ := Aside0.mk (blk_below (g := gb191) (o := .cells #[.slice A0_0 l0_0.length c0_0, .bool a0_1] 24 (0, 0)) (by (with_reducible repeat (first | refine blk_drewN ?_ _ | refine blk_drew ?_ | refine blk_alloc ?_ _)); exact BK191.out) hb)
                  have n2_ := Aside0.mk (blk_below (g := gb192) (o := .cells #[.int .i64 a1_0, .int .i64 a1_1, .int .i64 a1_2, .int .i64 a1_3, .int .i64 a1_4, .int .i64 a1_5] 26 (0, 0)) (by (with_reducible repeat (first | refine blk_drewN ?_ _ | refine blk_drew ?_ | refine blk_alloc ?_ _)); exact BK192.out) hb)
                  have n3_ := Aside0.mk (blk_below (g := gb198) (o := .cells #[.slice Ao15 t194.length co15, .bool t197] 30 (0, 0)) (by (with_reducible repeat (first | refine blk_drewN ?_ _ | refine blk_drew ?_ | refine blk_alloc ?_ _)); exact BK198.out) hb)
                  have n4_ := Aside0.mk (below_step (by repeat (first | (with_reducible first | exact HB.out | apply below_alloc | apply pw_below_drewN | apply below_drew1 | refine below_set ?_ GE191.out | refine below_set ?_ GE192.out | refine below_set ?_ GE198.out) | exact HB.out)) hb)
                  clear HO_199000
                  clear BK191
                  clear BK192
                  clear BK198
                  clear HB
                  have HO_199000 := n0_
                  have BK191 := n1_
                  have BK192 := n2_
                  have BK198 := n3_
                  have HB := n4_
                  clear n0_ n1_ n2_ n3_ n4_
                  (try clear hb)
                  (try clear hb2)
                  (try clear hk)
                  (try clear hi)
                  refine hK.out _ _ ⟨(blk_cell BK198.out 0).trans rfl, (blk_cell BK198.out 1).trans rfl, (blk_cell BK192.out 0).trans rfl, (blk_cell BK192.out 1).trans rfl, (blk_cell BK192.out 2).trans rfl, (blk_cell BK192.out 3).trans rfl, (blk_cell BK192.out 4).trans rfl, (blk_cell BK192.out 5).trans rfl⟩ (fun hHeld => ?_)
                  clear hK K
                  refine norm_ (a' := ?_) ?_ ?_
                  rotate_left
                  · show Act.put _ (some 78) _ = _
                    simp only [Act.put, List.setIfInBounds_toArray, List.set_cons_zero, List.set_cons_succ, i64_w, i32_w]
                    rfl
                  refine one_ (i := 6) (N := some 79) #[true, true, true, true, true, true, true, false, false, false] rfl rfl (one_of HT_.out (by kernel_rfl)) (by decide) (fun K hK => ?_)
                  refine goes_ Tryz.func18 (by kernel_rfl) rfl #[.agg #[.slice Ao15 t194.length co15, .bool t197], .agg #[.int .i64 t202, .int .i64 t203, .int .i64 t204, .int .i64 t205, .int .i64 t206, .int .i64 t207]] (by rfl) rfl rfl (by (try simp only [List.map_toArray, List.map_cons, List.map_nil]); first | done | rfl | (simp only [List.length_drop, List.length_take]; rfl)) ?_
                  with_reducible refine (spec_Fits.calls k2 _ _ t194 t197 t202 t203 t204 t205 t206 t207 t208 _ ?side1 ?side2 A79.out).mono ?_
                  (case side1 => repeat (first | exact (Kd.S_reads' HO_199000.out).2.2 | (with_reducible refine Kd.C_alloc ?_ _) | (with_reducible refine Kd.C_drewN ?_ _) | (with_reducible refine Kd.C_drew ?_)))
                  (case side2 => exact (Kd.S_reads' HO_199000.out).2.1)
                  rintro e w86 ⟨rfl, hb⟩
                  refine ⟨_, rfl, ?_⟩
                  have n0_ := Aside0.mk (Kd.S_below (by (with_reducible repeat (first | apply Kd.S_alloc | apply Kd.S_drewN | apply Kd.S_drew)); exact HO_199000.out) hb)
                  have n1_ := Aside0.mk (blk_below (g := gb191) (o := .cells #[.slice A0_0 l0_0.length c0_0, .bool a0_1] 24 (0, 0)) (by (with_reducible repeat (first | refine blk_drewN ?_ _ | refine blk_drew ?_ | refine blk_alloc ?_ _)); exact BK191.out) hb)
                  have n2_ := Aside0.mk (blk_below (g := gb192) (o := .cells #[.int .i64 a1_0, .int .i64 a1_1, .int .i64 a1_2, .int .i64 a1_3, .int .i64 a1_4, .int .i64 a1_5] 26 (0, 0)) (by (with_reducible repeat (first | refine blk_drewN ?_ _ | refine blk_drew ?_ | refine blk_alloc ?_ _)); exact BK192.out) hb)
                  have n3_ := Aside0.mk (blk_below (g := gb198) (o := .cells #[.slice Ao15 t194.length co15, .bool t197] 30 (0, 0)) (by (with_reducible repeat (first | refine blk_drewN ?_ _ | refine blk_drew ?_ | refine blk_alloc ?_ _)); exact BK198.out) hb)
                  have n4_ := Aside0.mk (below_step (by repeat (first | (with_reducible first | exact HB.out | apply below_alloc | apply pw_below_drewN | apply below_drew1 | refine below_set ?_ GE191.out | refine below_set ?_ GE192.out | refine below_set ?_ GE198.out) | exact HB.out)) hb)
                  clear HO_199000
                  clear BK191
                  clear BK192
                  clear BK198
                  clear HB
                  have HO_199000 := n0_
                  have BK191 := n1_
                  have BK192 := n2_
                  have BK198 := n3_
                  have HB := n4_
                  clear n0_ n1_ n2_ n3_ n4_
                  (try clear hb)
                  (try clear hb2)
                  (try clear hk)
                  (try clear hi)
                  refine hK.out _ _ ⟨(blk_cell BK198.out 0).trans rfl, (blk_cell BK198.out 1).trans rfl, (blk_cell BK192.out 0).trans rfl, (blk_cell BK192.out 1).trans rfl, (blk_cell BK192.out 2).trans rfl, (blk_cell BK192.out 3).trans rfl, (blk_cell BK192.out 4).trans rfl, (blk_cell BK192.out 5).trans rfl⟩ (fun hHeld => ?_)
                  clear hK K
                  refine norm_ (a' := ?_) ?_ ?_
                  rotate_left
                  · show Act.put _ (some 79) _ = _
                    simp only [Act.put, List.setIfInBounds_toArray, List.set_cons_zero, List.set_cons_succ, i64_w, i32_w]
                    rfl
                  refine pure_ (i := 7) (N := some 80) (v := ?_) (a' := ?_) #[true, true, true, true, true, true, true, true, false, false] rfl rfl (any_of HT_.out (by kernel_rfl)) (fun _ _ _ h => h) (Or.inl ⟨by rfl, ?_⟩) ?_ ?_
                  rotate_left
                  · intro w'
                    go_simp
                    with_reducible rfl
                  rotate_left
                  · simp only [Act.put, List.setIfInBounds_toArray, List.set_cons_zero, List.set_cons_succ, i64_w, i32_w]
                    rfl
                  refine pure_ (i := 8) (N := some 81) (v := ?_) (a' := ?_) #[true, true, true, true, true, true, true, true, true, false] rfl rfl (any_of HT_.out (by kernel_rfl)) (fun _ _ _ h => h) (Or.inl ⟨by rfl, ?_⟩) ?_ ?_
                  rotate_left
                  · intro w'
                    go_simp
                    with_reducible rfl
                  rotate_left
                  · simp only [Act.put, List.setIfInBounds_toArray, List.set_cons_zero, List.set_cons_succ, i64_w, i32_w]
                    rfl
                  refine pure_ (i := 9) (N := some 4) (v := ?_) (a' := ?_) #[true, true, true, true, true, true, true, true, true, true] rfl rfl (any_of HT_.out (by kernel_rfl)) (fun _ _ _ h => h) (Or.inl ⟨by rfl, ?_⟩) ?_ ?_
                  rotate_left
                  · intro w'
                    go_simp
                    with_reducible rfl
                  rotate_left
                  · simp only [Act.put, List.setIfInBounds_toArray, List.set_cons_zero, List.set_cons_succ, i64_w, i32_w]
                    rfl
                  refine done_ (done_of HT_.out (by kernel_rfl)) ?_
                  try go_wp2
                  go_ret
                  exact ⟨by first | rfl | (simp [errW_none, errW_some] <;> rfl) | (simp [*, errW_none, errW_some] <;> rfl), by repeat (first | (with_reducible first | exact HB.out | apply below_alloc | apply pw_below_drewN | apply below_drew1 | refine below_set ?_ GE191.out | refine below_set ?_ GE192.out | refine below_set ?_ GE198.out) | exact HB.out)⟩
                · replace c77 := Bool.eq_false_iff.mpr c77
                  subst c77
                  have H1 : (some false) = some r := by rw [if_neg (show ¬ (false = true) by decide)] at H; exact H
                  clear H
                  have H := H1
                  clear H1
                  obtain rfl := Option.some.inj H
                  have hnb87 := NB192_191.out
                  have hnc87 := NB191_192.out
                  have hnb88 := NB192_198.out
                  have hnc88 := NB198_192.out
                  have hcz89_0 : wr.cell? ⟨gb192, 0, none⟩ = some (.int .i64 a1_0) := (blk_cell BK192.out 0).trans rfl
                  have hcz89_1 : wr.cell? ⟨gb192, 1, none⟩ = some (.int .i64 a1_1) := (blk_cell BK192.out 1).trans rfl
                  have hcz89_2 : wr.cell? ⟨gb192, 2, none⟩ = some (.int .i64 a1_2) := (blk_cell BK192.out 2).trans rfl
                  have hcz89_3 : wr.cell? ⟨gb192, 3, none⟩ = some (.int .i64 a1_3) := (blk_cell BK192.out 3).trans rfl
                  have hcz89_4 : wr.cell? ⟨gb192, 4, none⟩ = some (.int .i64 a1_4) := (blk_cell BK192.out 4).trans rfl
                  have hcz89_5 : wr.cell? ⟨gb192, 5, none⟩ = some (.int .i64 a1_5) := (blk_cell BK192.out 5).trans rfl
                  have hfz89_0 := blk_frozen BK192.out 0
                  have hfz89_1 := blk_frozen BK192.out 1
                  have hfz89_2 := blk_frozen BK192.out 2
                  have hfz89_3 := blk_frozen BK192.out 3
                  have hfz89_4 := blk_frozen BK192.out 4
                  have hfz89_5 := blk_frozen BK192.out 5
                  try go_wp2_with (first | ((with_reducible refine gate_callee (f := 14) rfl ?_); refine goesL_ (some 70) rfl rfl Tryz.func14 (by kernel_rfl) rfl #[.string x6_2, .agg #[.int .i64 a1_0, .int .i64 a1_1, .int .i64 a1_2, .int .i64 a1_3, .int .i64 a1_4, .int .i64 a1_5]] rfl (by (try simp only [List.map_toArray, List.map_cons, List.map_nil]); first | done | rfl | (simp only [List.length_drop, List.length_take]; rfl)) ?_; (with_reducible refine (impl_Due.calls x6_2 a1_0 a1_1 a1_2 a1_3 a1_4 a1_5 t200 false _ A76.out).mono ?_); rintro e w90 ⟨rfl, hb⟩; refine ⟨_, rfl, ?_⟩; have n0_ := Aside0.mk (Kd.S_below (by (with_reducible repeat (first | apply Kd.S_alloc | apply Kd.S_drewN | apply Kd.S_drew)); exact HO_199000.out) hb); have n1_ := Aside0.mk (blk_below (g := gb191) (o := .cells #[.slice A0_0 l0_0.length c0_0, .bool a0_1] 24 (0, 0)) (by (with_reducible repeat (first | refine blk_drewN ?_ _ | refine blk_drew ?_ | refine blk_alloc ?_ _)); exact BK191.out) hb); have n2_ := Aside0.mk (blk_below (g := gb192) (o := .cells #[.int .i64 a1_0, .int .i64 a1_1, .int .i64 a1_2, .int .i64 a1_3, .int .i64 a1_4, .int .i64 a1_5] 26 (0, 0)) (by (with_reducible repeat (first | refine blk_drewN ?_ _ | refine blk_drew ?_ | refine blk_alloc ?_ _)); exact BK192.out) hb); have n3_ := Aside0.mk (blk_below (g := gb198) (o := .cells #[.slice Ao15 t194.length co15, .bool t197] 30 (0, 0)) (by (with_reducible repeat (first | refine blk_drewN ?_ _ | refine blk_drew ?_ | refine blk_alloc ?_ _)); exact BK198.out) hb); have n4_ := Aside0.mk (below_step (by repeat (first | (with_reducible first | exact HB.out | apply below_alloc | apply pw_below_drewN | apply below_drew1 | refine below_set ?_ GE191.out | refine below_set ?_ GE192.out | refine below_set ?_ GE198.out) | exact HB.out)) hb); clear HO_199000; clear BK191; clear BK192; clear BK198; clear HB; have HO_199000 := n0_; have BK191 := n1_; have BK192 := n2_; have BK198 := n3_; have HB := n4_; clear n0_ n1_ n2_ n3_ n4_; (try clear hb); (try clear hb2); (try clear hk); (try clear hi)))
                  have n0_ := Aside0.mk (Kd.S_drew HO_199000.out)
                  have n1_ := Aside0.mk (blk_drew BK191.out)
                  have n2_ := Aside0.mk (blk_drew BK192.out)
                  have n3_ := Aside0.mk (blk_drew BK198.out)
                  have n4_ := Aside0.mk (below_drew1 HB.out)
                  clear HO_199000
                  clear BK191
                  clear BK192
                  clear BK198
                  clear HB
                  have HO_199000 := n0_
                  have BK191 := n1_
                  have BK192 := n2_
                  have BK198 := n3_
                  have HB := n4_
                  clear n0_ n1_ n2_ n3_ n4_
                  refine start_ (n := 10) (S := fun w' => True) (ds := []) #[false, false, false, false, false, false, false, false, false, false] (by kernel_rfl) rfl rfl trivial (fun hHeld => ?_); refine with_tabW laws_FnQuestion.tab17 laws_FnQuestion.bits17 (fun HT_ HW_ => ?_)
                  generalize w90.drew = w91 at HO_199000 BK191 BK192 BK198 HB hHeld ⊢
                  refine pure_ (i := 0) (N := some 73) (v := ?_) (a' := ?_) #[true, false, false, false, false, false, false, false, false, false] rfl rfl (any_of HT_.out (by kernel_rfl)) (fun _ _ _ h => h) (Or.inl ⟨by rfl, ?_⟩) ?_ ?_
                  rotate_left
                  · intro w'
                    go_simp
                    with_reducible rfl
                  rotate_left
                  · simp only [Act.put, List.setIfInBounds_toArray, List.set_cons_zero, List.set_cons_succ, i64_w, i32_w]
                    rfl
                  refine pure_ (i := 1) (N := some 74) (v := ?_) (a' := ?_) #[true, true, false, false, false, false, false, false, false, false] rfl rfl (any_of HT_.out (by kernel_rfl)) (fun _ _ _ h => h) (Or.inl ⟨by rfl, ?_⟩) ?_ ?_
                  rotate_left
                  · intro w'
                    go_simp
                    with_reducible rfl
                  rotate_left
                  · simp only [Act.put, List.setIfInBounds_toArray, List.set_cons_zero, List.set_cons_succ, i64_w, i32_w]
                    rfl
                  refine pure_ (i := 2) (N := some 75) (v := undef) (a' := ?_) #[true, true, true, false, false, false, false, false, false, false] rfl rfl (any_of HT_.out (by kernel_rfl)) (fun _ _ _ h => h) (Or.inr ⟨by rfl, rfl⟩) ?_ ?_
                  rotate_left
                  · simp only [Act.put, List.setIfInBounds_toArray, List.set_cons_zero, List.set_cons_succ, i64_w, i32_w]
                    rfl
                  refine pure_ (i := 3) (N := some 76) (v := undef) (a' := ?_) #[true, true, true, true, false, false, false, false, false, false] rfl rfl (any_of HT_.out (by kernel_rfl)) (fun _ _ _ h => h) (Or.inr ⟨by rfl, rfl⟩) ?_ ?_
                  rotate_left
                  · simp only [Act.put, List.setIfInBounds_toArray, List.set_cons_zero, List.set_cons_succ, i64_w, i32_w]
                    rfl
                  refine pure_ (i := 4) (N := some 77) (v := undef) (a' := ?_) #[true, true, true, true, true, false, false, false, false, false] rfl rfl (any_of HT_.out (by kernel_rfl)) (fun _ _ _ h => h) (Or.inr ⟨by rfl, rfl⟩) ?_ ?_
                  rotate_left
                  · simp only [Act.put, List.setIfInBounds_toArray, List.set_cons_zero, List.set_cons_succ, i64_w, i32_w]
                    rfl
                  refine pure_ (i := 5) (N := some 78) (v := undef) (a' := ?_) #[true, true, true, true, true, true, false, false, false, false] rfl rfl (any_of HT_.out (by kernel_rfl)) (fun _ _ _ h => h) (Or.inr ⟨by rfl, rfl⟩) ?_ ?_
                  rotate_left
                  · simp only [Act.put, List.setIfInBounds_toArray, List.set_cons_zero, List.set_cons_succ, i64_w, i32_w]
                    rfl
                  refine pure_ (i := 6) (N := some 79) (v := undef) (a' := ?_) #[true, true, true, true, true, true, true, false, false, false] rfl rfl (any_of HT_.out (by kernel_rfl)) (fun _ _ _ h => h) (Or.inr ⟨by rfl, rfl⟩) ?_ ?_
                  rotate_left
                  · simp only [Act.put, List.setIfInBounds_toArray, List.set_cons_zero, List.set_cons_succ, i64_w, i32_w]
                    rfl
                  refine pure_ (i := 7) (N := some 80) (v := undef) (a' := ?_) #[true, true, true, true, true, true, true, true, false, false] rfl rfl (any_of HT_.out (by kernel_rfl)) (fun _ _ _ h => h) (Or.inr ⟨by rfl, rfl⟩) ?_ ?_
                  rotate_left
                  · simp only [Act.put, List.setIfInBounds_toArray, List.set_cons_zero, List.set_cons_succ, i64_w, i32_w]
                    rfl
                  refine pure_ (i := 8) (N := some 81) (v := ?_) (a' := ?_) #[true, true, true, true, true, true, true, true, true, false] rfl rfl (any_of HT_.out (by kernel_rfl)) (fun _ _ _ h => h) (Or.inl ⟨by rfl, ?_⟩) ?_ ?_
                  rotate_left
                  · intro w'
                    go_simp
                    with_reducible rfl
                  rotate_left
                  · simp only [Act.put, List.setIfInBounds_toArray, List.set_cons_zero, List.set_cons_succ, i64_w, i32_w]
                    rfl
                  refine pure_ (i := 9) (N := some 4) (v := ?_) (a' := ?_) #[true, true, true, true, true, true, true, true, true, true] rfl rfl (any_of HT_.out (by kernel_rfl)) (fun _ _ _ h => h) (Or.inl ⟨by rfl, ?_⟩) ?_ ?_
                  rotate_left
                  · intro w'
                    go_simp
                    with_reducible rfl
                  rotate_left
                  · simp only [Act.put, List.setIfInBounds_toArray, List.set_cons_zero, List.set_cons_succ, i64_w, i32_w]
                    rfl
                  refine done_ (done_of HT_.out (by kernel_rfl)) ?_
                  try go_wp2
                  go_ret
                  exact ⟨by first | rfl | (simp [errW_none, errW_some] <;> rfl) | (simp [*, errW_none, errW_some] <;> rfl), by repeat (first | (with_reducible first | exact HB.out | apply below_alloc | apply pw_below_drewN | apply below_drew1 | refine below_set ?_ GE191.out | refine below_set ?_ GE192.out | refine below_set ?_ GE198.out) | exact HB.out)⟩
  · replace c4 := Bool.eq_false_iff.mpr c4
    subst c4
    have H1 : (some true) = some r := by rw [if_neg (show ¬ (false = true) by decide)] at H; exact H
    clear H
    have H := H1
    clear H1
    obtain rfl := Option.some.inj H
    go_enter Tryz.func4, Tryz.ntmps4
    go_wp2_with (first | ((with_reducible refine gate_dst (N := 2) rfl ?_); refine box_event ?hg (N := 2) ?hd (cs := #[.slice A0_0 l0_0.length c0_0, .bool a0_1]) (t := 24) ?hr ?_; (case hd => rfl); (case hg => rfl); (case hr => first | (go_simp; done) | (go_simp; rfl)); intro gb191 hg w92 hbox hb; have n0_ := Aside0.mk (below_step (by repeat (first | (with_reducible first | exact HB.out | apply below_alloc | apply pw_below_drewN | apply below_drew1) | exact HB.out)) hb); have n1_ := Aside0.mk (hbox); have n2_ := Aside0.mk ((by rw [hg]; exact (below_size (by repeat (first | (with_reducible first | exact HB.out | apply below_alloc | apply pw_below_drewN | apply below_drew1) | exact HB.out))) : w.heap.size ≤ gb191)); have n3_ := Aside0.mk ((by rw [hg]; exact (below_size (by repeat (first | (with_reducible first | exact HB.out | apply below_alloc | apply pw_below_drewN | apply below_drew1) | exact HB.out))) : w.heap.size ≤ gb191)); clear HB; have HB := n0_; have BK191 := n1_; have GW191 := n2_; have GE191 := n3_; clear n0_ n1_ n2_ n3_; clear hb hbox hg) | ((with_reducible refine gate_dst (N := 3) rfl ?_); refine box_event ?hg (N := 3) ?hd (cs := #[.int .i64 a1_0, .int .i64 a1_1, .int .i64 a1_2, .int .i64 a1_3, .int .i64 a1_4, .int .i64 a1_5]) (t := 26) ?hr ?_; (case hd => rfl); (case hg => rfl); (case hr => first | (go_simp; done) | (go_simp; rfl)); intro gb192 hg w93 hbox hb; have n0_ := Aside0.mk (blk_below (g := gb191) (o := .cells #[.slice A0_0 l0_0.length c0_0, .bool a0_1] 24 (0, 0)) (by (with_reducible repeat (first | refine blk_drewN ?_ _ | refine blk_drew ?_ | refine blk_alloc ?_ _)); exact BK191.out) hb); have n1_ := Aside0.mk (below_step (by repeat (first | (with_reducible first | exact HB.out | apply below_alloc | apply pw_below_drewN | apply below_drew1 | refine below_set ?_ GE191.out) | exact HB.out)) hb); have n2_ := Aside0.mk (hbox); have n3_ := Aside0.mk ((by rw [hg]; exact (below_size (by repeat (first | (with_reducible first | exact HB.out | apply below_alloc | apply pw_below_drewN | apply below_drew1 | refine below_set ?_ GE191.out) | exact HB.out))) : w.heap.size ≤ gb192)); have n4_ := Aside0.mk ((by rw [hg]; exact (below_size (by repeat (first | (with_reducible first | exact HB.out | apply below_alloc | apply pw_below_drewN | apply below_drew1 | refine below_set ?_ GE191.out) | exact HB.out))) : w.heap.size ≤ gb192)); have n5_ := Aside0.mk ((by rw [hg]; exact Nat.ne_of_lt (blk_lt (g := gb191) (o := .cells #[.slice A0_0 l0_0.length c0_0, .bool a0_1] 24 (0, 0)) (by (with_reducible repeat (first | refine blk_drewN ?_ _ | refine blk_drew ?_ | refine blk_alloc ?_ _)); exact BK191.out)) : gb191 ≠ gb192)); have n6_ := Aside0.mk ((by rw [hg]; exact Nat.ne_of_gt (blk_lt (g := gb191) (o := .cells #[.slice A0_0 l0_0.length c0_0, .bool a0_1] 24 (0, 0)) (by (with_reducible repeat (first | refine blk_drewN ?_ _ | refine blk_drew ?_ | refine blk_alloc ?_ _)); exact BK191.out)) : gb192 ≠ gb191)); clear BK191; clear HB; have BK191 := n0_; have HB := n1_; have BK192 := n2_; have GW192 := n3_; have GE192 := n4_; have NB191_192 := n5_; have NB192_191 := n6_; clear n0_ n1_ n2_ n3_ n4_ n5_ n6_; clear hb hbox hg; have hnb94 := NB191_192.out; have hnc94 := NB192_191.out; have hcz95_0 : w93.cell? ⟨gb191, 0, none⟩ = some (.slice A0_0 l0_0.length c0_0) := (blk_cell BK191.out 0).trans rfl; have hcz95_1 : w93.cell? ⟨gb191, 1, none⟩ = some (.bool a0_1) := (blk_cell BK191.out 1).trans rfl; have hfz95_0 := blk_frozen BK191.out 0; have hfz95_1 := blk_frozen BK191.out 1) | ((with_reducible refine gate_callee (f := 11) rfl ?_); refine goesL_ (some 12) rfl rfl Tryz.func11 (by kernel_rfl) rfl #[.agg #[.slice A0_0 l0_0.length c0_0, .bool a0_1]] rfl (by (try simp only [List.map_toArray, List.map_cons, List.map_nil]); first | done | rfl | (simp only [List.length_drop, List.length_take]; rfl)) ?_; (with_reducible refine (laws_zzFits1.calls k _ _ l0_0 a0_1 false _ ?side1 ?side2 A3.out).mono ?_); (case side1 => repeat (first | exact (Kd.C_below HR0_0.out HB.out) | (with_reducible refine Kd.C_alloc ?_ _) | (with_reducible refine Kd.C_drewN ?_ _) | (with_reducible refine Kd.C_drew ?_))); (case side2 => exact HC0_0.out); rintro e w96 ⟨rfl, hb⟩; refine ⟨_, rfl, ?_⟩; have n0_ := Aside0.mk (blk_below (g := gb191) (o := .cells #[.slice A0_0 l0_0.length c0_0, .bool a0_1] 24 (0, 0)) (by (with_reducible repeat (first | refine blk_drewN ?_ _ | refine blk_drew ?_ | refine blk_alloc ?_ _)); exact BK191.out) hb); have n1_ := Aside0.mk (blk_below (g := gb192) (o := .cells #[.int .i64 a1_0, .int .i64 a1_1, .int .i64 a1_2, .int .i64 a1_3, .int .i64 a1_4, .int .i64 a1_5] 26 (0, 0)) (by (with_reducible repeat (first | refine blk_drewN ?_ _ | refine blk_drew ?_ | refine blk_alloc ?_ _)); exact BK192.out) hb); have n2_ := Aside0.mk (below_step (by repeat (first | (with_reducible first | exact HB.out | apply below_alloc | apply pw_below_drewN | apply below_drew1 | refine below_set ?_ GE191.out | refine below_set ?_ GE192.out) | exact HB.out)) hb); clear BK191; clear BK192; clear HB; have BK191 := n0_; have BK192 := n1_; have HB := n2_; clear n0_ n1_ n2_; (try clear hb); (try clear hb2); (try clear hk); (try clear hi)))
    go_ret
    exact ⟨by first | rfl | (simp [errW_none, errW_some] <;> rfl) | (simp [*, errW_none, errW_some] <;> rfl), by repeat (first | (with_reducible first | exact HB.out | apply below_alloc | apply pw_below_drewN | apply below_drew1 | refine below_set ?_ GE191.out | refine below_set ?_ GE192.out) | exact HB.out)⟩
end Go.Proofs.YtemgofomhjabpaaGreatDoor.Core
namespace Go.Proofs.YtemgofomhjabpaaGreatDoor.Core
open Go.RowKit Go.Proofs.YtemgofomhjabpaaGreatDoorW.PrintWords Go.Proofs.YtemgofomhjabpaaGreatDoorW.PrintLast Go.Proofs.YtemgofomhjabpaaGreatDoorW.PrintMore
attribute [local go_sem] max2_int min2_int max_two min_two max_three min_three max_four min_four   -- for this text's walks alone
set_option linter.unusedVariables false
set_option linter.unusedSimpArgs false
end Go.Proofs.YtemgofomhjabpaaGreatDoor.Core
namespace Go.Proofs.YtemgofomhjabpaaGreatDoor.Core
open Go.RowKit Go.Proofs.YtemgofomhjabpaaGreatDoorW.PrintWords Go.Proofs.YtemgofomhjabpaaGreatDoorW.PrintLast Go.Proofs.YtemgofomhjabpaaGreatDoorW.PrintMore
attribute [local go_sem] max2_int min2_int max_two min_two max_three min_three max_four min_four   -- for this text's walks alone
set_option linter.unusedVariables false
set_option linter.unusedSimpArgs false
def gotime_dateToAbsDays.f (a0 : Int) (a1 : Int) (a2 : Int) : Option (Int) := if ((a1) % 4294967296) < 3 then (some (IntKind.u64.wrap ((IntKind.u64.wrap (Int.tdiv (IntKind.u64.wrap (146097 * (IntKind.u64.wrap (Int.tdiv (IntKind.u64.wrap ((IntKind.u64.wrap ((IntKind.u64.wrap (a0)) - 1)) + 292277022400)) 100)))) 4)) + (IntKind.u64.wrap (wrap64 ((wrap64 ((((((1461 * ((Int.tmod (IntKind.u64.wrap ((IntKind.u64.wrap ((IntKind.u64.wrap (a0)) - 1)) + 292277022400)) 100) % 4294967296)) % 4294967296) / 4) + (((((979 * ((((a1) % 4294967296) + (12 * 1)) % 4294967296)) % 4294967296) - 2919) % 4294967296) / 32)) % 4294967296) + a2)) - 1)))))) else (some (IntKind.u64.wrap ((IntKind.u64.wrap (Int.tdiv (IntKind.u64.wrap (146097 * (IntKind.u64.wrap (Int.tdiv (IntKind.u64.wrap ((IntKind.u64.wrap ((IntKind.u64.wrap (a0)) - 0)) + 292277022400)) 100)))) 4)) + (IntKind.u64.wrap (wrap64 ((wrap64 ((((((1461 * ((Int.tmod (IntKind.u64.wrap ((IntKind.u64.wrap ((IntKind.u64.wrap (a0)) - 0)) + 292277022400)) 100) % 4294967296)) % 4294967296) / 4) + (((((979 * (((a1) % 4294967296) + (12 * 0))) % 4294967296) - 2919) % 4294967296) / 32)) % 4294967296) + a2)) - 1))))))
set_option maxHeartbeats 8000000 in
set_option maxRecDepth 100000 in
theorem gotime_dateToAbsDays.calls (a0 : Int) (a1 : Int) (a2 : Int) (r : Int) (w : World) (h : gotime_dateToAbsDays.f a0 a1 a2 = some r) :
    Calls Tryz.prog 52 #[.int .i64 a0, .int .i64 a1, .int .i64 a2] w fun e w' => e = .returned (.int .u64 r) ∧ Drawn0 w w' := by
  have H : (if ((a1) % 4294967296) < 3 then (some (IntKind.u64.wrap ((IntKind.u64.wrap (Int.tdiv (IntKind.u64.wrap (146097 * (IntKind.u64.wrap (Int.tdiv (IntKind.u64.wrap ((IntKind.u64.wrap ((IntKind.u64.wrap (a0)) - 1)) + 292277022400)) 100)))) 4)) + (IntKind.u64.wrap (wrap64 ((wrap64 ((((((1461 * ((Int.tmod (IntKind.u64.wrap ((IntKind.u64.wrap ((IntKind.u64.wrap (a0)) - 1)) + 292277022400)) 100) % 4294967296)) % 4294967296) / 4) + (((((979 * ((((a1) % 4294967296) + (12 * 1)) % 4294967296)) % 4294967296) - 2919) % 4294967296) / 32)) % 4294967296) + a2)) - 1)))))) else (some (IntKind.u64.wrap ((IntKind.u64.wrap (Int.tdiv (IntKind.u64.wrap (146097 * (IntKind.u64.wrap (Int.tdiv (IntKind.u64.wrap ((IntKind.u64.wrap ((IntKind.u64.wrap (a0)) - 0)) + 292277022400)) 100)))) 4)) + (IntKind.u64.wrap (wrap64 ((wrap64 ((((((1461 * ((Int.tmod (IntKind.u64.wrap ((IntKind.u64.wrap ((IntKind.u64.wrap (a0)) - 0)) + 292277022400)) 100) % 4294967296)) % 4294967296) / 4) + (((((979 * (((a1) % 4294967296) + (12 * 0))) % 4294967296) - 2919) % 4294967296) / 32)) % 4294967296) + a2)) - 1))))))) = some r := h
  clear h
  by_cases c4 : ((a1) % 4294967296) < 3
  · rw [if_pos c4] at H
    have c4b0 : decide (((a1) % 4294967296) < 3) = true := decide_eq_true c4
    clear c4
    obtain rfl := Option.some.inj H
    go_enter Tryz.func52, Tryz.ntmps52
    go_wp2
    go_ret
    exact ⟨by first | rfl | (simp; done) | (simp [*]; done), by repeat (first | exact Drawn0.refl _ | apply Drawn0.step)⟩
  · rw [if_neg c4] at H
    have c4b0 : decide (((a1) % 4294967296) < 3) = false := decide_eq_false c4
    clear c4
    obtain rfl := Option.some.inj H
    go_enter Tryz.func52, Tryz.ntmps52
    go_wp2
    go_ret
    exact ⟨by first | rfl | (simp; done) | (simp [*]; done), by repeat (first | exact Drawn0.refl _ | apply Drawn0.step)⟩
end Go.Proofs.YtemgofomhjabpaaGreatDoor.Core
namespace Go.Proofs.YtemgofomhjabpaaGreatDoor.Core
open Go.RowKit Go.Proofs.YtemgofomhjabpaaGreatDoorW.PrintWords Go.Proofs.YtemgofomhjabpaaGreatDoorW.PrintLast Go.Proofs.YtemgofomhjabpaaGreatDoorW.PrintMore
attribute [local go_sem] max2_int min2_int max_two min_two max_three min_three max_four min_four   -- for this text's walks alone
set_option linter.unusedVariables false
set_option linter.unusedSimpArgs false
def bits_Mul32.f (a0 : Int) (a1 : Int) : Option (Int × Int) := some (((IntKind.u64.wrap ((IntKind.u64.wrap (a0)) * (IntKind.u64.wrap (a1)))) / 4294967296) % 4294967296, (IntKind.u64.wrap ((IntKind.u64.wrap (a0)) * (IntKind.u64.wrap (a1)))) % 4294967296)
set_option maxHeartbeats 8000000 in
set_option maxRecDepth 100000 in
theorem bits_Mul32.calls (a0 : Int) (a1 : Int) (r1 : Int) (r2 : Int) (w : World) (h : bits_Mul32.f a0 a1 = some (r1, r2)) :
    Calls Tryz.prog 145 #[.int .u32 a0, .int .u32 a1] w fun e w' => e = .returned (.tuple #[.int .u32 r1, .int .u32 r2]) ∧ Drawn0 w w' := by
  have H : (some (((IntKind.u64.wrap ((IntKind.u64.wrap (a0)) * (IntKind.u64.wrap (a1)))) / 4294967296) % 4294967296, (IntKind.u64.wrap ((IntKind.u64.wrap (a0)) * (IntKind.u64.wrap (a1)))) % 4294967296)) = some (r1, r2) := h
  clear h
  simp only [Option.some.injEq, Prod.mk.injEq] at H
  obtain ⟨rfl, rfl⟩ := H
  go_enter Tryz.func145, Tryz.ntmps145
  go_wp2
  go_ret2
  exact ⟨by first | rfl | (simp; done) | (simp [*]; done), by repeat (first | exact Drawn0.refl _ | apply Drawn0.step)⟩
end Go.Proofs.YtemgofomhjabpaaGreatDoor.Core
namespace Go.Proofs.YtemgofomhjabpaaGreatDoor.Core
open Go.RowKit Go.Proofs.YtemgofomhjabpaaGreatDoorW.PrintWords Go.Proofs.YtemgofomhjabpaaGreatDoorW.PrintLast Go.Proofs.YtemgofomhjabpaaGreatDoorW.PrintMore
attribute [local go_sem] max2_int min2_int max_two min_two max_three min_three max_four min_four   -- for this text's walks alone
set_option linter.unusedVariables false
set_option linter.unusedSimpArgs false
def gotime_absDays_split.f (a0 : Int) : Option (Int × Int × Int) := (bits_Mul32.f 2939745 (Go.bits .or .u32 ((Int.tmod (IntKind.u64.wrap ((IntKind.u64.wrap (4 * a0)) + 3)) 146097) % 4294967296) 3)).bind fun bt564 => (some (IntKind.u64.wrap (Int.tdiv (IntKind.u64.wrap ((IntKind.u64.wrap (4 * a0)) + 3)) 146097), wrap64 (bt564.1), ((Int.tdiv bt564.2 2939745) % 4294967296) / 4))
set_option maxHeartbeats 8000000 in
set_option maxRecDepth 100000 in
theorem gotime_absDays_split.calls (a0 : Int) (r1 : Int) (r2 : Int) (r3 : Int) (w : World) (h : gotime_absDays_split.f a0 = some (r1, r2, r3)) :
    Calls Tryz.prog 126 #[.int .u64 a0] w fun e w' => e = .returned (.tuple #[.int .u64 r1, .int .i64 r2, .int .i64 r3]) ∧ Drawn0 w w' := by
  have H : ((bits_Mul32.f 2939745 (Go.bits .or .u32 ((Int.tmod (IntKind.u64.wrap ((IntKind.u64.wrap (4 * a0)) + 3)) 146097) % 4294967296) 3)).bind fun bt564 => (some (IntKind.u64.wrap (Int.tdiv (IntKind.u64.wrap ((IntKind.u64.wrap (4 * a0)) + 3)) 146097), wrap64 (bt564.1), ((Int.tdiv bt564.2 2939745) % 4294967296) / 4))) = some (r1, r2, r3) := h
  clear h
  replace H := Option.bind_eq_some_iff.mp H
  obtain ⟨⟨t564, t565⟩, A20, H⟩ := H
  replace H : (some (IntKind.u64.wrap (Int.tdiv (IntKind.u64.wrap ((IntKind.u64.wrap (4 * a0)) + 3)) 146097), wrap64 (t564), ((Int.tdiv t565 2939745) % 4294967296) / 4)) = some (r1, r2, r3) := H
  have A2 := Aside0.mk A20
  clear A20
  simp only [Option.some.injEq, Prod.mk.injEq] at H
  obtain ⟨rfl, rfl, rfl⟩ := H
  go_enter Tryz.func126, Tryz.ntmps126
  go_wp2_with (first | ((with_reducible refine gate_callee (f := 145) rfl ?_); refine goesL_ (some 20) rfl rfl Tryz.func145 (by kernel_rfl) rfl #[.int .u32 2939745, .int .u32 (Go.bits .or .u32 ((Int.tmod (IntKind.u64.wrap ((IntKind.u64.wrap (4 * a0)) + 3)) 146097) % 4294967296) 3)] rfl (by (try simp only [List.map_toArray, List.map_cons, List.map_nil]); first | done | rfl | (simp only [List.length_drop, List.length_take]; rfl)) ?_; (with_reducible refine (bits_Mul32.calls 2939745 (Go.bits .or .u32 ((Int.tmod (IntKind.u64.wrap ((IntKind.u64.wrap (4 * a0)) + 3)) 146097) % 4294967296) 3) t564 t565 _ A2.out).mono ?_); rintro e w' ⟨rfl, ⟨nd, rfl⟩⟩; refine ⟨_, rfl, ?_⟩))
  go_ret3
  exact ⟨by first | rfl | (simp; done) | (simp [*]; done), by repeat (first | exact Drawn0.refl _ | apply Drawn0.step)⟩
end Go.Proofs.YtemgofomhjabpaaGreatDoor.Core
namespace Go.Proofs.YtemgofomhjabpaaGreatDoor.Core
open Go.RowKit Go.Proofs.YtemgofomhjabpaaGreatDoorW.PrintWords Go.Proofs.YtemgofomhjabpaaGreatDoorW.PrintLast Go.Proofs.YtemgofomhjabpaaGreatDoorW.PrintMore
attribute [local go_sem] max2_int min2_int max_two min_two max_three min_three max_four min_four   -- for this text's walks alone
set_option linter.unusedVariables false
set_option linter.unusedSimpArgs false
def gotime_absYday_split.f (a0 : Int) : Option (Int × Int) := some (((((2141 * ((a0) % 4294967296)) % 4294967296) + 197913) % 4294967296) / 65536, 1 + ((Int.tdiv (Go.bits .and .u32 ((((2141 * ((a0) % 4294967296)) % 4294967296) + 197913) % 4294967296) 65535) 2141) % 4294967296))
set_option maxHeartbeats 8000000 in
set_option maxRecDepth 100000 in
theorem gotime_absYday_split.calls (a0 : Int) (r1 : Int) (r2 : Int) (w : World) (h : gotime_absYday_split.f a0 = some (r1, r2)) :
    Calls Tryz.prog 127 #[.int .i64 a0] w fun e w' => e = .returned (.tuple #[.int .i64 r1, .int .i64 r2]) ∧ Drawn0 w w' := by
  have H : (some (((((2141 * ((a0) % 4294967296)) % 4294967296) + 197913) % 4294967296) / 65536, 1 + ((Int.tdiv (Go.bits .and .u32 ((((2141 * ((a0) % 4294967296)) % 4294967296) + 197913) % 4294967296) 65535) 2141) % 4294967296))) = some (r1, r2) := h
  clear h
  simp only [Option.some.injEq, Prod.mk.injEq] at H
  obtain ⟨rfl, rfl⟩ := H
  go_enter Tryz.func127, Tryz.ntmps127
  go_wp2
  go_ret2
  exact ⟨by first | rfl | (simp; done) | (simp [*]; done), by repeat (first | exact Drawn0.refl _ | apply Drawn0.step)⟩
end Go.Proofs.YtemgofomhjabpaaGreatDoor.Core
namespace Go.Proofs.YtemgofomhjabpaaGreatDoor.Core
open Go.RowKit Go.Proofs.YtemgofomhjabpaaGreatDoorW.PrintWords Go.Proofs.YtemgofomhjabpaaGreatDoorW.PrintLast Go.Proofs.YtemgofomhjabpaaGreatDoorW.PrintMore
attribute [local go_sem] max2_int min2_int max_two min_two max_three min_three max_four min_four   -- for this text's walks alone
set_option linter.unusedVariables false
set_option linter.unusedSimpArgs false
def gotime_absYday_janFeb.f (a0 : Int) : Option (Int) := if a0 ≥ 306 then (some 1) else (some 0)
set_option maxHeartbeats 8000000 in
set_option maxRecDepth 100000 in
theorem gotime_absYday_janFeb.calls (a0 : Int) (r : Int) (w : World) (h : gotime_absYday_janFeb.f a0 = some r) :
    Calls Tryz.prog 137 #[.int .i64 a0] w fun e w' => e = .returned (.int .i64 r) ∧ Drawn0 w w' := by
  have H : (if a0 ≥ 306 then (some 1) else (some 0)) = some r := h
  clear h
  by_cases c2 : a0 ≥ 306
  · rw [if_pos c2] at H
    have c2b0 : decide (306 ≤ a0) = true := decide_eq_true c2
    clear c2
    obtain rfl := Option.some.inj H
    go_enter Tryz.func137, Tryz.ntmps137
    go_wp2
    go_ret
    exact ⟨by first | rfl | (simp; done) | (simp [*]; done), by repeat (first | exact Drawn0.refl _ | apply Drawn0.step)⟩
  · rw [if_neg c2] at H
    have c2b0 : decide (306 ≤ a0) = false := decide_eq_false c2
    clear c2
    obtain rfl := Option.some.inj H
    go_enter Tryz.func137, Tryz.ntmps137
    go_wp2
    go_ret
    exact ⟨by first | rfl | (simp; done) | (simp [*]; done), by repeat (first | exact Drawn0.refl _ | apply Drawn0.step)⟩
end Go.Proofs.YtemgofomhjabpaaGreatDoor.Core
namespace Go.Proofs.YtemgofomhjabpaaGreatDoor.Core
open Go.RowKit Go.Proofs.YtemgofomhjabpaaGreatDoorW.PrintWords Go.Proofs.YtemgofomhjabpaaGreatDoorW.PrintLast Go.Proofs.YtemgofomhjabpaaGreatDoorW.PrintMore
attribute [local go_sem] max2_int min2_int max_two min_two max_three min_three max_four min_four   -- for this text's walks alone
set_option linter.unusedVariables false
set_option linter.unusedSimpArgs false
def gotime_absCentury_year.f (a0 : Int) (a1 : Int) (a2 : Int) : Option (Int) := some (wrap64 ((wrap64 ((wrap64 (IntKind.u64.wrap ((IntKind.u64.wrap (a0 * 100)) - 292277022400))) + a1)) + a2))
set_option maxHeartbeats 8000000 in
set_option maxRecDepth 100000 in
theorem gotime_absCentury_year.calls (a0 : Int) (a1 : Int) (a2 : Int) (r : Int) (w : World) (h : gotime_absCentury_year.f a0 a1 a2 = some r) :
    Calls Tryz.prog 138 #[.int .u64 a0, .int .i64 a1, .int .i64 a2] w fun e w' => e = .returned (.int .i64 r) ∧ Drawn0 w w' := by
  have H : (some (wrap64 ((wrap64 ((wrap64 (IntKind.u64.wrap ((IntKind.u64.wrap (a0 * 100)) - 292277022400))) + a1)) + a2))) = some r := h
  clear h
  obtain rfl := Option.some.inj H
  go_enter Tryz.func138, Tryz.ntmps138
  go_wp2
  go_ret
  exact ⟨by first | rfl | (simp; done) | (simp [*]; done), by repeat (first | exact Drawn0.refl _ | apply Drawn0.step)⟩
end Go.Proofs.YtemgofomhjabpaaGreatDoor.Core
namespace Go.Proofs.YtemgofomhjabpaaGreatDoor.Core
open Go.RowKit Go.Proofs.YtemgofomhjabpaaGreatDoorW.PrintWords Go.Proofs.YtemgofomhjabpaaGreatDoorW.PrintLast Go.Proofs.YtemgofomhjabpaaGreatDoorW.PrintMore
attribute [local go_sem] max2_int min2_int max_two min_two max_three min_three max_four min_four   -- for this text's walks alone
set_option linter.unusedVariables false
set_option linter.unusedSimpArgs false
def gotime_absMonth_month.f (a0 : Int) (a1 : Int) : Option (Int) := some (wrap64 (a0 - (wrap64 (a1 * 12))))
set_option maxHeartbeats 8000000 in
set_option maxRecDepth 100000 in
theorem gotime_absMonth_month.calls (a0 : Int) (a1 : Int) (r : Int) (w : World) (h : gotime_absMonth_month.f a0 a1 = some r) :
    Calls Tryz.prog 139 #[.int .i64 a0, .int .i64 a1] w fun e w' => e = .returned (.int .i64 r) ∧ Drawn0 w w' := by
  have H : (some (wrap64 (a0 - (wrap64 (a1 * 12))))) = some r := h
  clear h
  obtain rfl := Option.some.inj H
  go_enter Tryz.func139, Tryz.ntmps139
  go_wp2
  go_ret
  exact ⟨by first | rfl | (simp; done) | (simp [*]; done), by repeat (first | exact Drawn0.refl _ | apply Drawn0.step)⟩
end Go.Proofs.YtemgofomhjabpaaGreatDoor.Core
namespace Go.Proofs.YtemgofomhjabpaaGreatDoor.Core
open Go.RowKit Go.Proofs.YtemgofomhjabpaaGreatDoorW.PrintWords Go.Proofs.YtemgofomhjabpaaGreatDoorW.PrintLast Go.Proofs.YtemgofomhjabpaaGreatDoorW.PrintMore
attribute [local go_sem] max2_int min2_int max_two min_two max_three min_three max_four min_four   -- for this text's walks alone
set_option linter.unusedVariables false
set_option linter.unusedSimpArgs false
end Go.Proofs.YtemgofomhjabpaaGreatDoor.Core
namespace Go.Proofs.YtemgofomhjabpaaGreatDoor.Core
open Go.RowKit Go.Proofs.YtemgofomhjabpaaGreatDoorW.PrintWords Go.Proofs.YtemgofomhjabpaaGreatDoorW.PrintLast Go.Proofs.YtemgofomhjabpaaGreatDoorW.PrintMore
attribute [local go_sem] max2_int min2_int max_two min_two max_three min_three max_four min_four   -- for this text's walks alone
set_option linter.unusedVariables false
set_option linter.unusedSimpArgs false
def gotime_absDays_weekday.f (a0 : Int) : Option (Int) := some (wrap64 (Int.tmod (IntKind.u64.wrap (a0 + 3)) 7))
set_option maxHeartbeats 8000000 in
set_option maxRecDepth 100000 in
theorem gotime_absDays_weekday.calls (a0 : Int) (r : Int) (w : World) (h : gotime_absDays_weekday.f a0 = some r) :
    Calls Tryz.prog 146 #[.int .u64 a0] w fun e w' => e = .returned (.int .i64 r) ∧ Drawn0 w w' := by
  have H : (some (wrap64 (Int.tmod (IntKind.u64.wrap (a0 + 3)) 7))) = some r := h
  clear h
  obtain rfl := Option.some.inj H
  go_enter Tryz.func146, Tryz.ntmps146
  go_wp2
  go_ret
  exact ⟨by first | rfl | (simp; done) | (simp [*]; done), by repeat (first | exact Drawn0.refl _ | apply Drawn0.step)⟩
end Go.Proofs.YtemgofomhjabpaaGreatDoor.Core
namespace Go.Proofs.YtemgofomhjabpaaGreatDoor.Core
open Go.RowKit Go.Proofs.YtemgofomhjabpaaGreatDoorW.PrintWords Go.Proofs.YtemgofomhjabpaaGreatDoorW.PrintLast Go.Proofs.YtemgofomhjabpaaGreatDoorW.PrintMore
attribute [local go_sem] max2_int min2_int max_two min_two max_three min_three max_four min_four   -- for this text's walks alone
set_option linter.unusedVariables false
set_option linter.unusedSimpArgs false
def gotime_absSeconds_days.f (a0 : Int) : Option (Int) := some (IntKind.u64.wrap (Int.tdiv a0 86400))
set_option maxHeartbeats 8000000 in
set_option maxRecDepth 100000 in
theorem gotime_absSeconds_days.calls (a0 : Int) (r : Int) (w : World) (h : gotime_absSeconds_days.f a0 = some r) :
    Calls Tryz.prog 125 #[.int .u64 a0] w fun e w' => e = .returned (.int .u64 r) ∧ Drawn0 w w' := by
  have H : (some (IntKind.u64.wrap (Int.tdiv a0 86400))) = some r := h
  clear h
  obtain rfl := Option.some.inj H
  go_enter Tryz.func125, Tryz.ntmps125
  go_wp2
  go_ret
  exact ⟨by first | rfl | (simp; done) | (simp [*]; done), by repeat (first | exact Drawn0.refl _ | apply Drawn0.step)⟩
end Go.Proofs.YtemgofomhjabpaaGreatDoor.Core
namespace Go.Proofs.YtemgofomhjabpaaGreatDoor.Core
open Go.RowKit Go.Proofs.YtemgofomhjabpaaGreatDoorW.PrintWords
def B (l : List UInt8) : ByteArray := ⟨l.toArray⟩
theorem B_size (l : List UInt8) : (B l).size = l.length := by simp [B, ByteArray.size]
theorem B_data (l : List UInt8) : (B l).data.toList = l := by simp [B]
theorem B_list (l : List UInt8) : (B l).toList = l := by rw [Lib.toList_data, B_data]
theorem B_of (s : ByteArray) : B s.data.toList = s := by cases s; simp [B]
theorem B_inj {l m : List UInt8} (h : B l = B m) : l = m := by
  have := congrArg (fun s : ByteArray => s.data.toList) h
  simpa [B_data] using this
theorem B_ext_iff {s t : ByteArray} (h : s.data.toList = t.data.toList) : s = t := by rw [← B_of s, ← B_of t, h]
theorem B_app (l m : List UInt8) : B l ++ B m = B (l ++ m) := by
  apply B_ext_iff
  rw [B_data, ByteArray.data_append, Array.toList_append, B_data, B_data]
theorem B_cut (l : List UInt8) (i j : Nat) : (B l).extract i j = B ((l.drop i).take (j - i)) := by
  apply B_ext_iff
  rw [Lib.extract_data, B_data, B_data]
theorem B_bytesOf (l : List UInt8) : bytesOf (B l) = l.map fun b => (b.toNat : Int) := by rw [bytesOf, B_data]
theorem strOfNums_B (l : List UInt8) : strOfNums (l.map fun b => (b.toNat : Int)) = B l := by
  unfold strOfNums B
  congr 2
  rw [List.map_map]
  conv => rhs; rw [← List.map_id l]
  apply List.map_congr_left
  intro b _
  simp
theorem bt_B (l : List UInt8) (i : Int) (h0 : 0 ≤ i) (h : i < (l.length : Int)) : bt (B l) i = ((l[i.toNat]'(by omega)).toNat : Int) := by
  unfold bt
  rw [dif_pos (by rw [B_size]; omega)]
  have : (B l)[i.toNat]'(by rw [B_size]; omega) = l[i.toNat]'(by omega) := by simp [B, ByteArray.getElem_eq_getElem_data]
  rw [this]
theorem bt_B_at (l : List UInt8) (i : Nat) (h : i < l.length) : bt (B l) (i : Int) = ((l[i]).toNat : Int) := by
  rw [bt_B l _ (by omega) (by omega)]; simp
theorem wrap64_id {i : Int} (h0 : -9223372036854775808 ≤ i) (h1 : i ≤ 9223372036854775807) : wrap64 i = i := by unfold wrap64; omega
theorem wrap64_nat (i : Nat) (h : i < 9223372036854775807) : wrap64 ((i : Int) + 1) = ((i + 1 : Nat) : Int) := by rw [wrap64_id (by omega) (by omega)]; rfl
theorem rd_at (l : List Int) (i : Nat) : rd l (i : Int) = l.getD i 0 := by simp [rd]
theorem Ev.round {α : Type} {g f : Nat → Option α} {r : α} (k : Ev f r) (h : ∀ k, g (k + 1) = f k) : Ev g r := Ev.step h k
theorem Ev.eq {α : Type} {g : Nat → Option α} {r : α} (r' : α) (h : Ev g r') (e : r' = r) : Ev g r := e ▸ h
theorem Ev.done {α : Type} {g : Nat → Option α} {r : α} (h : ∀ k, g (k + 1) = some r) : Ev g r := Ev.step h (Ev.now r)
theorem Ev.const {α : Type} {o : Option α} {r : α} (h : o = some r) : Ev (fun _ => o) r := ⟨0, fun _ _ => h⟩
def decN (n : Nat) : List UInt8 := if _h : n < 10 then [UInt8.ofNat (48 + n)] else decN (n / 10) ++ [UInt8.ofNat (48 + n % 10)]
termination_by n
theorem decN_lt (n : Nat) (h : n < 10) : decN n = [UInt8.ofNat (48 + n)] := by rw [decN, dif_pos h]
theorem decN_ge (n : Nat) (h : ¬ n < 10) : decN n = decN (n / 10) ++ [UInt8.ofNat (48 + n % 10)] := by rw [decN, dif_neg h]
theorem decN_digit (n : Nat) : ∀ b ∈ decN n, 48 ≤ b.toNat ∧ b.toNat ≤ 57 := by
  induction n using decN.induct with
  | case1 n h =>
    rw [decN_lt n h]
    intro b hb
    rw [List.mem_singleton] at hb
    subst hb
    have : (48 + n) % 256 = 48 + n := by omega
    simp [this]
    omega
  | case2 n h ih =>
    rw [decN_ge n h]
    intro b hb
    rcases List.mem_append.1 hb with hb | hb
    · exact ih b hb
    · rw [List.mem_singleton] at hb
      subst hb
      have : (48 + n % 10) % 256 = 48 + n % 10 := by omega
      simp [this]
      omega
theorem decN_ne (n : Nat) : decN n ≠ [] := by
  by_cases h : n < 10
  · rw [decN_lt n h]; simp
  · rw [decN_ge n h]; simp
theorem decN_length (n : Nat) (m : Nat) (h : n < 10 ^ (m + 1)) : (decN n).length ≤ m + 1 := by
  induction m generalizing n with
  | zero => rw [decN_lt n (by simpa using h)]; simp
  | succ m ih =>
    by_cases h10 : n < 10
    · rw [decN_lt n h10]; simp
    · rw [decN_ge n h10]
      have := ih (n / 10) (by rw [Nat.div_lt_iff_lt_mul (by omega)]; rw [Nat.pow_succ] at h; exact h)
      simp
      omega
end Go.Proofs.YtemgofomhjabpaaGreatDoor.Core
namespace Go.Proofs.YtemgofomhjabpaaGreatDoor.Core
open Go.RowKit Go.Proofs.YtemgofomhjabpaaGreatDoorW.PrintWords
def leapI (y : Int) : Bool := decide (y % 4 = 0) && (decide (y % 100 ≠ 0) || decide (y % 400 = 0))
def daysI (y mo : Int) : Int := if mo = 2 ∧ leapI y = true then 29 else rd [0, 31, 28, 31, 30, 31, 30, 31, 31, 30, 31, 30, 31] mo
structure DateOk (y mo d : Int) : Prop where
  y0 : 1989 ≤ y
  y1 : y ≤ 2092
  m0 : 1 ≤ mo
  m1 : mo ≤ 12
  d0 : 1 ≤ d
  d1 : d ≤ daysI y mo
def jfI (mo : Int) : Int := (14 - mo) / 12
def aydI (mo d : Int) : Int := (979 * (mo + 12 * jfI mo) - 2919) / 32 + d - 1
def absD (y mo d : Int) : Int := 146097 * ((y - jfI mo + 292277022400) / 100) / 4 + 1461 * ((y - jfI mo + 292277022400) % 100) / 4 + aydI mo d
theorem u64_id {x : Int} (h0 : 0 ≤ x) (h1 : x < 18446744073709551616) : IntKind.u64.wrap x = x := by
  have : IntKind.u64.wrap x = x % 18446744073709551616 := rfl
  omega
theorem months {mo : Int} (h0 : 1 ≤ mo) (h1 : mo ≤ 12) : mo = 1 ∨ mo = 2 ∨ mo = 3 ∨ mo = 4 ∨ mo = 5 ∨ mo = 6 ∨ mo = 7 ∨ mo = 8 ∨ mo = 9 ∨ mo = 10 ∨ mo = 11 ∨ mo = 12 := by omega
theorem dateToAbs_eq (y mo d : Int) (y0 : 1989 ≤ y) (y1 : y ≤ 2092) (m0 : 1 ≤ mo) (m1 : mo ≤ 12) (d0 : 1 ≤ d) (d1 : d ≤ 32) : gotime_dateToAbsDays.f y mo d = some (absD y mo d) := by
  unfold gotime_dateToAbsDays.f absD aydI jfI
  rcases months m0 m1 with h | h | h | h | h | h | h | h | h | h | h | h <;> subst h <;>
    (first | rw [if_pos (by decide)] | rw [if_neg (by decide)]) <;>
    simp (disch := omega) only [u64_id, wrap64_id, Int.tdiv_eq_ediv_of_nonneg, Int.tmod_eq_emod_of_nonneg, Int.emod_eq_of_lt, Int.reduceSub, Int.reduceDiv, Int.reduceAdd, Int.reduceMul, Int.sub_zero] <;>
    exact congrArg some (by omega)
theorem or3 (n : Int) (h0 : 0 ≤ n) (h1 : n < 1000000) : Go.bits .or .u32 n 3 = n / 4 * 4 + 3 := by
  obtain ⟨m, rfl⟩ : ∃ m : Nat, n = m := ⟨n.toNat, by omega⟩
  have e := u32_or_nat m 3 (by omega) (by omega)
  rw [show ((3 : Nat) : Int) = 3 from rfl] at e
  rw [e]
  have e2 : m ||| 3 = m / 4 * 4 + 3 := by
    have h4 : 2 ^ 2 * (m / 4) + m % 4 = 2 ^ 2 * (m / 4) ||| m % 4 := Nat.two_pow_add_eq_or_of_lt (by omega) _
    have h5 : 2 ^ 2 * (m / 4) + 3 = 2 ^ 2 * (m / 4) ||| 3 := Nat.two_pow_add_eq_or_of_lt (by omega) _
    have hr : m % 4 ||| 3 = 3 := by
      have : m % 4 < 4 := Nat.mod_lt _ (by omega)
      rcases (by omega : m % 4 = 0 ∨ m % 4 = 1 ∨ m % 4 = 2 ∨ m % 4 = 3) with h | h | h | h <;> rw [h] <;> rfl
    have hm : m = 2 ^ 2 * (m / 4) + m % 4 := by omega
    calc m ||| 3 = (2 ^ 2 * (m / 4) ||| m % 4) ||| 3 := by rw [← h4, ← hm]
      _ = 2 ^ 2 * (m / 4) ||| (m % 4 ||| 3) := Nat.or_assoc _ _ _
      _ = m / 4 * 4 + 3 := by rw [hr, ← h5]; omega
  omega
theorem and16 (n : Int) (h0 : 0 ≤ n) (h1 : n < 4294967296) : Go.bits .and .u32 n 65535 = n % 65536 := by
  obtain ⟨m, rfl⟩ : ∃ m : Nat, n = m := ⟨n.toNat, by omega⟩
  have e := u32_and_nat m 65535 (by omega) (by omega)
  rw [show ((65535 : Nat) : Int) = 65535 from rfl] at e
  rw [e]
  have e2 : m &&& 65535 = m % 65536 := Nat.and_two_pow_sub_one_eq_mod m 16
  omega
theorem leap_spec (y : Int) : leapI y = true ↔ y % 4 = 0 ∧ (y % 100 ≠ 0 ∨ y % 400 = 0) := by
  unfold leapI
  simp
theorem daysI_cases (y mo : Int) (m0 : 1 ≤ mo) (m1 : mo ≤ 12) : daysI y mo ≤ 31 ∧ 28 ≤ daysI y mo ∧ (mo = 2 → daysI y mo = if leapI y = true then 29 else 28) ∧ (mo = 4 ∨ mo = 6 ∨ mo = 9 ∨ mo = 11 → daysI y mo = 30) ∧ (mo = 1 ∨ mo = 3 ∨ mo = 5 ∨ mo = 7 ∨ mo = 8 ∨ mo = 10 ∨ mo = 12 → daysI y mo = 31) := by
  unfold daysI
  rcases months m0 m1 with h | h | h | h | h | h | h | h | h | h | h | h <;> subst h <;> cases hl : leapI y <;> simp [rd]
theorem split_at (C cy ayd : Int) (hC : C = 2922770243 ∨ (C = 2922770244 ∧ cy ≤ 95)) (c0 : 0 ≤ cy) (c1 : cy ≤ 99) (a0 : 0 ≤ ayd) (a1 : ayd ≤ 365) (a2 : ayd = 365 → cy % 4 = 3) :
    gotime_absDays_split.f (146097 * C / 4 + 1461 * cy / 4 + ayd) = some (C, cy, ayd) := by
  unfold gotime_absDays_split.f bits_Mul32.f
  have e1 : IntKind.u64.wrap (IntKind.u64.wrap (4 * (146097 * C / 4 + 1461 * cy / 4 + ayd)) + 3) = 4 * (146097 * C / 4 + 1461 * cy / 4 + ayd) + 3 := by
    rw [u64_id (x := 4 * (146097 * C / 4 + 1461 * cy / 4 + ayd)) (by omega) (by omega), u64_id (by omega) (by omega)]
  rw [e1, Int.tdiv_eq_ediv_of_nonneg (by omega), Int.tmod_eq_emod_of_nonneg (by omega)]
  have e2 : (4 * (146097 * C / 4 + 1461 * cy / 4 + ayd) + 3) / 146097 = C := by rcases hC with h | ⟨h, h95⟩ <;> subst h <;> omega
  have e3 : (4 * (146097 * C / 4 + 1461 * cy / 4 + ayd) + 3) % 146097 / 4 * 4 + 3 = 1461 * cy - cy % 4 + 4 * ayd + 3 := by rcases hC with h | ⟨h, h95⟩ <;> subst h <;> omega
  have e4 : (4 * (146097 * C / 4 + 1461 * cy / 4 + ayd) + 3) % 146097 % 4294967296 = (4 * (146097 * C / 4 + 1461 * cy / 4 + ayd) + 3) % 146097 := by omega
  rw [e2, e4, or3 _ (by omega) (by omega), e3]
  have b1 : 0 ≤ 1461 * cy - cy % 4 + 4 * ayd + 3 := by omega
  have b2 : 1461 * cy - cy % 4 + 4 * ayd + 3 < 146200 := by omega
  rw [u64_id (x := 2939745) (by omega) (by omega), u64_id (x := 1461 * cy - cy % 4 + 4 * ayd + 3) b1 (by omega), u64_id (x := 2939745 * (1461 * cy - cy % 4 + 4 * ayd + 3)) (by omega) (by omega), u64_id (x := C) (by omega) (by omega)]
  simp only [Option.bind_some]
  obtain ⟨r, hr⟩ : ∃ r : Int, r = 4 * ayd + 3 - cy % 4 := ⟨_, rfl⟩
  have hr0 : 0 ≤ r := by omega
  have hr1 : r ≤ 1460 := by omega
  have e5 : 2939745 * (1461 * cy - cy % 4 + 4 * ayd + 3) = 4294967296 * cy + (149 * cy + 2939745 * r) := by subst hr; omega
  rw [e5]
  obtain ⟨X, hX⟩ : ∃ X : Int, X = 149 * cy + 2939745 * r := ⟨_, rfl⟩
  have hX0 : 0 ≤ X := by omega
  have hX1 : X < 4294967296 := by omega
  have e9 : X / 2939745 = r := by omega
  rw [← hX]
  clear e1 e2 e3 e4 e5 b1 b2 hX
  have e6 : (4294967296 * cy + X) / 4294967296 = cy := by omega
  have e7 : (4294967296 * cy + X) % 4294967296 = X := by omega
  rw [e6, e7, Int.emod_eq_of_lt (by omega) (by omega), wrap64_id (by omega) (by omega), Int.tdiv_eq_ediv_of_nonneg (by omega), e9]
  have e8 : r % 4294967296 / 4 = ayd := by omega
  rw [e8]
theorem jf_01 {mo : Int} (h0 : 1 ≤ mo) (h1 : mo ≤ 12) : 0 ≤ jfI mo ∧ jfI mo ≤ 1 := by unfold jfI; omega
theorem ayd_range {y mo d : Int} (h : DateOk y mo d) : 0 ≤ aydI mo d ∧ aydI mo d ≤ 365 ∧ (aydI mo d = 365 → (y - jfI mo + 292277022400) % 100 % 4 = 3) := by
  obtain ⟨y0, y1, m0, m1, d0, d1⟩ := h
  obtain ⟨q1, q2, q3, q4, q5⟩ := daysI_cases y mo m0 m1
  unfold aydI jfI
  rcases months m0 m1 with h | h | h | h | h | h | h | h | h | h | h | h
  · have := q5 (by omega); subst h; refine ⟨by omega, by omega, by omega⟩
  · have := q3 h
    subst h
    cases hl : leapI y with
    | true =>
      have hlp := (leap_spec y).1 hl
      rw [hl] at this
      simp at this
      refine ⟨by omega, by omega, by omega⟩
    | false =>
      rw [hl] at this
      simp at this
      refine ⟨by omega, by omega, by omega⟩
  · have := q5 (by omega); subst h; refine ⟨by omega, by omega, by omega⟩
  · have := q4 (by omega); subst h; refine ⟨by omega, by omega, by omega⟩
  · have := q5 (by omega); subst h; refine ⟨by omega, by omega, by omega⟩
  · have := q4 (by omega); subst h; refine ⟨by omega, by omega, by omega⟩
  · have := q5 (by omega); subst h; refine ⟨by omega, by omega, by omega⟩
  · have := q5 (by omega); subst h; refine ⟨by omega, by omega, by omega⟩
  · have := q4 (by omega); subst h; refine ⟨by omega, by omega, by omega⟩
  · have := q5 (by omega); subst h; refine ⟨by omega, by omega, by omega⟩
  · have := q4 (by omega); subst h; refine ⟨by omega, by omega, by omega⟩
  · have := q5 (by omega); subst h; refine ⟨by omega, by omega, by omega⟩
theorem split_date {y mo d : Int} (h : DateOk y mo d) : gotime_absDays_split.f (absD y mo d) = some ((y - jfI mo + 292277022400) / 100, (y - jfI mo + 292277022400) % 100, aydI mo d) := by
  obtain ⟨r1, r2, r3⟩ := ayd_range h
  have hj := jf_01 h.m0 h.m1
  have := h.y0
  have := h.y1
  exact split_at _ _ _ (by omega) (by omega) (by omega) r1 r2 r3
theorem aydSplit {y mo d : Int} (h : DateOk y mo d) : gotime_absYday_split.f (aydI mo d) = some (mo + 12 * jfI mo, d) ∧ gotime_absYday_janFeb.f (aydI mo d) = some (jfI mo) ∧ gotime_absMonth_month.f (mo + 12 * jfI mo) (jfI mo) = some mo := by
  obtain ⟨y0, y1, m0, m1, d0, d1⟩ := h
  obtain ⟨q1, q2, q3, q4, q5⟩ := daysI_cases y mo m0 m1
  have key : ∀ A a : Int, 0 ≤ A → A ≤ 366 → (2141 * A + 197913) / 65536 = a → 0 ≤ (2141 * A + 197913) % 65536 / 2141 → gotime_absYday_split.f A = some (a, 1 + (2141 * A + 197913) % 65536 / 2141) := by
    intro A a h0 h1 ha h2
    unfold gotime_absYday_split.f
    have e1 : ((2141 * (A % 4294967296)) % 4294967296 + 197913) % 4294967296 = 2141 * A + 197913 := by omega
    rw [e1, and16 _ (by omega) (by omega), Int.tdiv_eq_ediv_of_nonneg (by omega), ha]
    have e2 : (2141 * A + 197913) % 65536 / 2141 % 4294967296 = (2141 * A + 197913) % 65536 / 2141 := by omega
    rw [e2]
  have fin : ∀ (c : Int), aydI mo d = c + d - 1 → 0 ≤ c + d - 1 → c + d - 1 ≤ 366 → (2141 * (c + d - 1) + 197913) / 65536 = mo + 12 * jfI mo → (2141 * (c + d - 1) + 197913) % 65536 / 2141 = d - 1 →
      gotime_absYday_split.f (aydI mo d) = some (mo + 12 * jfI mo, d) := by
    intro c hc b0 b1 e1 e2
    rw [hc, key (c + d - 1) _ b0 b1 e1 (by omega), e2]
    congr 2
    omega
  have jf : ∀ (c : Int), aydI mo d = c + d - 1 → (c + d - 1 ≥ 306 ↔ jfI mo = 1) → (jfI mo = 0 ∨ jfI mo = 1) → gotime_absYday_janFeb.f (aydI mo d) = some (jfI mo) := by
    intro c hc hi h01
    rw [hc]
    unfold gotime_absYday_janFeb.f
    by_cases hg : c + d - 1 ≥ 306
    · rw [if_pos hg, hi.1 hg]
    · rw [if_neg hg]
      rcases h01 with h | h
      · rw [h]
      · exact absurd (hi.2 h) hg
  have mon : gotime_absMonth_month.f (mo + 12 * jfI mo) (jfI mo) = some mo := by
    have hj := jf_01 m0 m1
    unfold gotime_absMonth_month.f
    rw [wrap64_id (i := jfI mo * 12) (by omega) (by omega), wrap64_id (by omega) (by omega)]
    congr 1
    omega
  have all : ∀ (m : Int), mo = m → ∀ (c j n : Int), jfI m = j → (979 * (m + 12 * j) - 2919) / 32 = c → daysI y mo ≤ n → (0 ≤ c) → (j = 0 ∧ c + n ≤ 306 ∨ j = 1 ∧ 306 ≤ c ∧ c + n ≤ 367) →
      (∀ d : Int, 1 ≤ d → d ≤ n → (2141 * (c + d - 1) + 197913) / 65536 = m + 12 * j ∧ (2141 * (c + d - 1) + 197913) % 65536 / 2141 = d - 1) →
      gotime_absYday_split.f (aydI mo d) = some (mo + 12 * jfI mo, d) ∧ gotime_absYday_janFeb.f (aydI mo d) = some (jfI mo) ∧ gotime_absMonth_month.f (mo + 12 * jfI mo) (jfI mo) = some mo := by
    intro m hm c j n hj hc hn c0 hjn hd
    subst hm
    have ha : aydI mo d = c + d - 1 := by unfold aydI; rw [hj, hc]
    obtain ⟨g1, g2⟩ := hd d d0 (by omega)
    refine ⟨fin c ha (by omega) (by omega) (by rw [hj]; exact g1) g2, jf c ha (by rw [hj]; omega) (by rw [hj]; omega), mon⟩
  rcases months m0 m1 with h | h | h | h | h | h | h | h | h | h | h | h
  · exact all 1 h 306 1 31 rfl rfl (by have := q5 (by omega); omega) (by omega) (by omega) (fun d _ _ => by omega)
  · exact all 2 h 337 1 29 rfl rfl (by have := q3 h; split at this <;> omega) (by omega) (by omega) (fun d _ _ => by omega)
  · exact all 3 h 0 0 31 rfl rfl (by have := q5 (by omega); omega) (by omega) (by omega) (fun d _ _ => by omega)
  · exact all 4 h 31 0 30 rfl rfl (by have := q4 (by omega); omega) (by omega) (by omega) (fun d _ _ => by omega)
  · exact all 5 h 61 0 31 rfl rfl (by have := q5 (by omega); omega) (by omega) (by omega) (fun d _ _ => by omega)
  · exact all 6 h 92 0 30 rfl rfl (by have := q4 (by omega); omega) (by omega) (by omega) (fun d _ _ => by omega)
  · exact all 7 h 122 0 31 rfl rfl (by have := q5 (by omega); omega) (by omega) (by omega) (fun d _ _ => by omega)
  · exact all 8 h 153 0 31 rfl rfl (by have := q5 (by omega); omega) (by omega) (by omega) (fun d _ _ => by omega)
  · exact all 9 h 184 0 30 rfl rfl (by have := q4 (by omega); omega) (by omega) (by omega) (fun d _ _ => by omega)
  · exact all 10 h 214 0 31 rfl rfl (by have := q5 (by omega); omega) (by omega) (by omega) (fun d _ _ => by omega)
  · exact all 11 h 245 0 30 rfl rfl (by have := q4 (by omega); omega) (by omega) (by omega) (fun d _ _ => by omega)
  · exact all 12 h 275 0 31 rfl rfl (by have := q5 (by omega); omega) (by omega) (by omega) (fun d _ _ => by omega)
theorem centuryYear {y mo d : Int} (h : DateOk y mo d) : gotime_absCentury_year.f ((y - jfI mo + 292277022400) / 100) ((y - jfI mo + 292277022400) % 100) (jfI mo) = some y := by
  have hj := jf_01 h.m0 h.m1
  have := h.y0
  have := h.y1
  unfold gotime_absCentury_year.f
  have e : IntKind.u64.wrap (IntKind.u64.wrap ((y - jfI mo + 292277022400) / 100 * 100) - 292277022400) = (IntKind.u64.wrap ((y - jfI mo + 292277022400) / 100 * 100) - 292277022400) % 18446744073709551616 := rfl
  rw [e, u64_id (by omega) (by omega)]
  have e2 : ((y - jfI mo + 292277022400) / 100 * 100 - 292277022400) % 18446744073709551616 = (y - jfI mo + 292277022400) / 100 * 100 - 292277022400 := by omega
  rw [e2, wrap64_id (i := (y - jfI mo + 292277022400) / 100 * 100 - 292277022400) (by omega) (by omega), wrap64_id (i := _ + (y - jfI mo + 292277022400) % 100) (by omega) (by omega), wrap64_id (by omega) (by omega)]
  congr 1
  omega
end Go.Proofs.YtemgofomhjabpaaGreatDoor.Core
namespace Go.Proofs.YtemgofomhjabpaaGreatDoor.Core
open Go.RowKit
theorem no_mono : (bits BinOp.and IntKind.u64 0 9223372036854775808 != 0) = false := by kernel_rfl
theorem ret_i64 {a b : Int} (h : a = b) : Ending.returned (.int .i64 a) = .returned (.int .i64 b) := by rw [h]
theorem ret_u64 {a b : Int} (h : a = b) : Ending.returned (.int .u64 a) = .returned (.int .u64 b) := by rw [h]
theorem sec_any (g : Nat) (x : Int) (w : World) (h0 : w.cell? ⟨g, 0, none⟩ = some (.int .u64 0)) (h1 : w.cell? ⟨g, 1, none⟩ = some (.int .i64 x)) :
    Calls Tryz.prog 78 #[.pointer (some ⟨g, 0, none⟩)] w fun e w' => e = .returned (.int .i64 x) ∧ w = w' := by
  have hm := no_mono
  go_enter Tryz.func78, Tryz.ntmps78
  go_wp2
  go_ret
  exact ⟨rfl, rfl⟩
theorem unixSec_any (g : Nat) (x : Int) (w : World) (hx0 : 62700000000 ≤ x) (hx1 : x ≤ 66100000000) (h0 : w.cell? ⟨g, 0, none⟩ = some (.int .u64 0)) (h1 : w.cell? ⟨g, 1, none⟩ = some (.int .i64 x)) :
    Calls Tryz.prog 144 #[.pointer (some ⟨g, 0, none⟩)] w fun e w' => e = .returned (.int .i64 (x - 62135596800)) ∧ w = w' := by
  go_enter Tryz.func144, Tryz.ntmps144
  go_wp2_with (go_at_call 78; refine (sec_any g x _ h0 h1).mono ?_; rintro e w' ⟨rfl, rfl⟩)
  go_ret
  exact ⟨ret_i64 (by omega), rfl⟩
theorem stripMono_any (g : Nat) (w : World) (h0 : w.cell? ⟨g, 0, none⟩ = some (.int .u64 0)) :
    Calls Tryz.prog 69 #[.pointer (some ⟨g, 0, none⟩)] w fun e w' => e = .returned (.tuple #[]) ∧ w = w' := by
  have hm := no_mono
  go_enter Tryz.func69, Tryz.ntmps69
  go_wp2
  go_end0
  exact ⟨rfl, rfl⟩
def utcCells : Array Value := #[.bool true, .string ⟨#[85, 84, 67]⟩, .slice none 0 0, .slice none 0 0, .string ⟨#[]⟩, .int .i64 0, .int .i64 0, .pointer none]
def IsUtc (w : World) (b : Nat) : Prop := w.heap[b]? = some (.cells utcCells 127)
theorem IsUtc.cell {w : World} {b : Nat} (h : IsUtc w b) (j : Nat) : w.cell? ⟨b, j, none⟩ = utcCells[j]? := by
  unfold IsUtc at h; simp [World.cell?, h]
theorem utc_any (w : World) :
    Calls Tryz.prog 44 #[] w fun e w' => e = .returned (.pointer (some ⟨w.heap.size, 0, none⟩)) ∧ w.alloc (.cells utcCells 127) = w' := by
  go_enter Tryz.func44, Tryz.ntmps44
  go_wp2
  go_ret
  exact ⟨rfl, rfl⟩
theorem get_nil (w : World) :
    Calls Tryz.prog 67 #[.pointer none] w fun e w' => e = .returned (.pointer (some ⟨w.heap.size, 0, none⟩)) ∧ w.alloc (.cells utcCells 127) = w' := by
  go_enter Tryz.func67, Tryz.ntmps67
  go_wp2_with (go_at_call 44; refine (utc_any _).mono ?_; rintro e w' ⟨rfl, rfl⟩)
  go_ret
  exact ⟨rfl, rfl⟩
theorem get_some (b : Nat) (w : World) :
    Calls Tryz.prog 67 #[.pointer (some ⟨b, 0, none⟩)] w fun e w' => e = .returned (.pointer (some ⟨b, 0, none⟩)) ∧ w = w' := by
  go_enter Tryz.func67, Tryz.ntmps67
  go_wp2
  go_ret
  exact ⟨rfl, rfl⟩
theorem unixTime_any (s : Int) (w : World) (h0 : 500000000 ≤ s) (h1 : s ≤ 4000000000) :
    Calls Tryz.prog 54 #[.int .i64 s, .int .i32 0] w fun e w' => e = .returned (.agg #[.int .u64 0, .int .i64 (s + 62135596800), .pointer none]) ∧ Below w.heap.size w w' := by
  go_enter Tryz.func54, Tryz.ntmps54
  go_wp2
  exact bodyPost_ret (v := .agg #[.int .u64 0, .int .i64 (s + 62135596800), .pointer none]) (by simp [results, Tryz.results54, go_sem]) rfl ⟨rfl, (Below.refl _ _).alloc (Nat.le_refl _) _⟩
theorem setLoc_any (g b : Nat) (x : Int) (w : World) (hg : w.heap[g]? = some (.cells #[.int .u64 0, .int .i64 x, .pointer none] 79)) (hb : w.cell? ⟨b, 0, none⟩ = some (.bool true)) :
    Calls Tryz.prog 55 #[.pointer (some ⟨g, 0, none⟩), .pointer (some ⟨b, 0, none⟩)] w fun e w' => e = .returned (.tuple #[]) ∧ w.setCell ⟨g, 2, none⟩ (.pointer none) = w' := by
  have h0 : w.cell? ⟨g, 0, none⟩ = some (.int .u64 0) := by simp [World.cell?, hg]
  have h2 : w.cell? ⟨g, 2, none⟩ = some (.pointer none) := by simp [World.cell?, hg]
  have f2 : w.frozen? ⟨g, 2, none⟩ = false := by simp [World.frozen?, hg]
  clear hg
  go_enter Tryz.func55, Tryz.ntmps55
  go_wp2_with (go_at_call 69; refine (stripMono_any g _ h0).mono ?_; rintro e w' ⟨rfl, rfl⟩)
  go_end0
  exact ⟨rfl, rfl⟩
set_option maxRecDepth 100000 in
theorem lookup_any (b : Nat) (s : Int) (w : World) (hb : w.cell? ⟨b, 2, none⟩ = some (.slice none 0 0)) :
    Calls Tryz.prog 53 #[.pointer (some ⟨b, 0, none⟩), .int .i64 s] w fun e w' => e = .returned (.tuple #[.string ⟨#[85, 84, 67]⟩, .int .i64 0, .int .i64 (-9223372036854775808), .int .i64 9223372036854775807, .bool false]) ∧ w = w' := by
  go_enter Tryz.func53, Tryz.ntmps53
  go_wp2_with (go_at_call 67; refine (get_some b _).mono ?_; rintro e w' ⟨rfl, rfl⟩)
  refine bodyPost_ret (v := .tuple #[.string ⟨#[85, 84, 67]⟩, .int .i64 0, .int .i64 (-9223372036854775808), .int .i64 9223372036854775807, .bool false]) (by simp [results, Tryz.results53, go_sem]) rfl ⟨rfl, rfl⟩
theorem alloc_new (w : World) (o : Obj) : (w.alloc o).heap[w.heap.size]? = some o := heap_alloc_new w o
theorem isUtc_new (w : World) (n : Nat) (h : n = w.heap.size) : IsUtc (w.alloc (.cells utcCells 127)) n := by subst h; exact alloc_new _ _
theorem utc0 : utcCells[0]? = some (.bool true) := rfl
set_option maxRecDepth 100000 in
theorem absSec_any (x : Int) (w : World) (hx0 : 62700000000 ≤ x) (hx1 : x ≤ 66100000000) :
    Calls Tryz.prog 124 #[.agg #[.int .u64 0, .int .i64 x, .pointer none]] w fun e w' => e = .returned (.int .u64 (x + 9223371966606163200)) ∧ Below w.heap.size w w' := by
  have hu := utc0
  go_enter Tryz.func124, Tryz.ntmps124
  go_wp2_with (first | (go_at_call 67; refine (get_nil _).mono ?_; rintro e w' ⟨rfl, rfl⟩) | (go_at_call 144; refine (unixSec_any _ x _ hx0 hx1 (by go_simp) (by go_simp)).mono ?_; rintro e w' ⟨rfl, rfl⟩))
  go_ret
  exact ⟨ret_u64 (by first | omega | (simp; omega)), (((Below.refl _ _).alloc (Nat.le_refl _) _).alloc (by simp) _)⟩
theorem location_any (x : Int) (w : World) :
    Calls Tryz.prog 115 #[.agg #[.int .u64 0, .int .i64 x, .pointer none]] w fun e w' => ∃ b, e = .returned (.pointer (some ⟨b, 0, none⟩)) ∧ w.heap.size ≤ b ∧ IsUtc w' b ∧ Below w.heap.size w w' := by
  go_enter Tryz.func115, Tryz.ntmps115
  go_wp2_with (go_at_call 44; refine (utc_any _).mono ?_; rintro e w' ⟨rfl, rfl⟩)
  go_ret
  exact ⟨_, rfl, by simp, isUtc_new _ _ (by simp), (((Below.refl _ _).alloc (Nat.le_refl _) _).alloc (by simp) _)⟩
end Go.Proofs.YtemgofomhjabpaaGreatDoor.Core
namespace Go.Proofs.YtemgofomhjabpaaGreatDoor.Core
open Go.RowKit Go.Proofs.YtemgofomhjabpaaGreatDoorW.PrintWords
def cumI (y mo : Int) : Int := rd [0, 0, 31, 59, 90, 120, 151, 181, 212, 243, 273, 304, 334] mo + (if leapI y = true ∧ 2 < mo then 1 else 0)
def dayN (y mo d : Int) : Int := (y - 1) * 365 + (y - 1) / 4 - (y - 1) / 100 + (y - 1) / 400 + d + cumI y mo
def wdI (y mo d : Int) : Int := dayN y mo d % 7
theorem absD_table : ∀ i : Fin 104, ∀ m : Fin 12, absD (1989 + (i.val : Int)) (m.val + 1) 1 = dayN (1989 + (i.val : Int)) (m.val + 1) 1 + 106751990354237 := by decide +kernel
theorem absD_dayN (y mo d : Int) (y0 : 1989 ≤ y) (y1 : y ≤ 2092) (m0 : 1 ≤ mo) (m1 : mo ≤ 12) : absD y mo d = dayN y mo d + 106751990354237 := by
  have h := absD_table ⟨(y - 1989).toNat, by omega⟩ ⟨(mo - 1).toNat, by omega⟩
  simp only at h
  rw [show (1989 : Int) + ((y - 1989).toNat : Int) = y by omega, show (((mo - 1).toNat : Int) + 1) = mo by omega] at h
  have e1 : absD y mo d = absD y mo 1 + (d - 1) := by unfold absD aydI; omega
  have e2 : dayN y mo d = dayN y mo 1 + (d - 1) := by unfold dayN; omega
  rw [e1, e2, h]
  omega
theorem cumI_range (y mo : Int) (m0 : 1 ≤ mo) (m1 : mo ≤ 12) : 0 ≤ cumI y mo ∧ cumI y mo + daysI y mo ≤ 366 := by
  rcases months m0 m1 with h | h | h | h | h | h | h | h | h | h | h | h <;> subst h <;> cases hl : leapI y <;> simp [cumI, daysI, hl, rd]
theorem absD_range {y mo d : Int} (h : DateOk y mo d) : 106751991080340 ≤ absD y mo d ∧ absD y mo d ≤ 106751991118400 := by
  have e := absD_dayN y mo d h.y0 h.y1 h.m0 h.m1
  obtain ⟨c0, c1⟩ := cumI_range y mo h.m0 h.m1
  have := h.y0
  have := h.y1
  have := h.d0
  have := h.d1
  unfold dayN at e
  omega
theorem weekday_date {y mo d : Int} (h : DateOk y mo d) : gotime_absDays_weekday.f (absD y mo d) = some (wdI y mo d) := by
  have hr := absD_range h
  have e := absD_dayN y mo d h.y0 h.y1 h.m0 h.m1
  unfold gotime_absDays_weekday.f wdI
  rw [u64_id (by omega) (by omega), Int.tmod_eq_emod_of_nonneg (by omega), wrap64_id (by omega) (by omega), e]
  congr 1
  omega
def extOf (y mo d h mi s : Int) : Int := absD y mo d * 86400 + (h * 3600 + mi * 60 + s) - 9223371966606163200
structure ClockOk (h mi s : Int) : Prop where
  h0 : 0 ≤ h
  h1 : h ≤ 23
  m0 : 0 ≤ mi
  m1 : mi ≤ 59
  s0 : 0 ≤ s
  s1 : s ≤ 59
theorem ext_range {y mo d h mi s : Int} (hd : DateOk y mo d) (hc : ClockOk h mi s) : 62700000000 ≤ extOf y mo d h mi s ∧ extOf y mo d h mi s ≤ 66100000000 := by
  have := absD_range hd
  obtain ⟨h0, h1, m0, m1, s0, s1⟩ := hc
  unfold extOf
  omega
theorem days_ext {y mo d h mi s : Int} (hd : DateOk y mo d) (hc : ClockOk h mi s) : gotime_absSeconds_days.f (extOf y mo d h mi s + 9223371966606163200) = some (absD y mo d) := by
  have := absD_range hd
  obtain ⟨h0, h1, m0, m1, s0, s1⟩ := hc
  unfold gotime_absSeconds_days.f extOf
  have e : absD y mo d * 86400 + (h * 3600 + mi * 60 + s) - 9223371966606163200 + 9223371966606163200 = absD y mo d * 86400 + (h * 3600 + mi * 60 + s) := by omega
  rw [e, Int.tdiv_eq_ediv_of_nonneg (by omega)]
  have e2 : (absD y mo d * 86400 + (h * 3600 + mi * 60 + s)) / 86400 = absD y mo d := by omega
  rw [e2, u64_id (by omega) (by omega)]
end Go.Proofs.YtemgofomhjabpaaGreatDoor.Core
namespace Go.Proofs.YtemgofomhjabpaaGreatDoor.Core
open Go.RowKit Go.Proofs.YtemgofomhjabpaaGreatDoorW.PrintWords Go.Proofs.YtemgofomhjabpaaGreatDoorW.PrintLast Go.Proofs.YtemgofomhjabpaaGreatDoorW.PrintMore
attribute [local go_sem] max2_int min2_int max_two min_two max_three min_three max_four min_four   -- for this text's walks alone
set_option linter.unusedVariables false
set_option linter.unusedSimpArgs false
end Go.Proofs.YtemgofomhjabpaaGreatDoor.Core
namespace Go.Proofs.YtemgofomhjabpaaGreatDoor.Core
open Go.RowKit Go.Proofs.YtemgofomhjabpaaGreatDoorW.PrintWords
section
variable (x D C cy a j y mo d : Int) (w : World) (hx0 : 62700000000 ≤ x) (hx1 : x ≤ 66100000000)
include hx0 hx1
theorem year_w (h1 : Aside0 (gotime_absSeconds_days.f (x + 9223371966606163200) = some D)) (h2 : Aside0 (gotime_absDays_split.f D = some (C, cy, a))) (h3 : Aside0 (gotime_absYday_janFeb.f a = some j)) (h4 : Aside0 (gotime_absCentury_year.f C cy j = some y)) :
    Calls Tryz.prog 118 #[.agg #[.int .u64 0, .int .i64 x, .pointer none]] w fun e w' => e = .returned (.int .i64 y) ∧ Below w.heap.size w w' := by
  go_enter Tryz.func118, Tryz.ntmps118
  go_wp2_with (first | (go_at_call 124; refine (absSec_any x _ hx0 hx1).mono ?_; rintro e w1 ⟨rfl, hb⟩) | (go_at_call 125; refine (gotime_absSeconds_days.calls _ D _ h1.out).mono ?_; rintro e w2 ⟨rfl, ⟨n2, rfl⟩⟩) | (go_at_call 126; refine (gotime_absDays_split.calls _ C cy a _ h2.out).mono ?_; rintro e w3 ⟨rfl, ⟨n3, rfl⟩⟩) | (go_at_call 137; refine (gotime_absYday_janFeb.calls _ j _ h3.out).mono ?_; rintro e w4 ⟨rfl, ⟨n4, rfl⟩⟩) | (go_at_call 138; refine (gotime_absCentury_year.calls _ _ _ y _ h4.out).mono ?_; rintro e w5 ⟨rfl, ⟨n5, rfl⟩⟩))
  go_ret
  exact ⟨rfl, by repeat (first | exact hb | exact below_then (below_alloc (Below.refl _ _) _) (by simp) hb | apply pw_below_drewN)⟩
theorem month_w (h1 : Aside0 (gotime_absSeconds_days.f (x + 9223371966606163200) = some D)) (h2 : Aside0 (gotime_absDays_split.f D = some (C, cy, a))) (h3 : Aside0 (gotime_absYday_split.f a = some (j, d))) (h5 : Aside0 (gotime_absYday_janFeb.f a = some y)) (h4 : Aside0 (gotime_absMonth_month.f j y = some mo)) :
    Calls Tryz.prog 119 #[.agg #[.int .u64 0, .int .i64 x, .pointer none]] w fun e w' => e = .returned (.int .i64 mo) ∧ Below w.heap.size w w' := by
  go_enter Tryz.func119, Tryz.ntmps119
  go_wp2_with (first | (go_at_call 124; refine (absSec_any x _ hx0 hx1).mono ?_; rintro e w1 ⟨rfl, hb⟩) | (go_at_call 125; refine (gotime_absSeconds_days.calls _ D _ h1.out).mono ?_; rintro e w2 ⟨rfl, ⟨n2, rfl⟩⟩) | (go_at_call 126; refine (gotime_absDays_split.calls _ C cy a _ h2.out).mono ?_; rintro e w3 ⟨rfl, ⟨n3, rfl⟩⟩) | (go_at_call 127; refine (gotime_absYday_split.calls _ j d _ h3.out).mono ?_; rintro e w4 ⟨rfl, ⟨n4, rfl⟩⟩) | (go_at_call 137; refine (gotime_absYday_janFeb.calls _ y _ h5.out).mono ?_; rintro e w5 ⟨rfl, ⟨n5, rfl⟩⟩) | (go_at_call 139; refine (gotime_absMonth_month.calls _ _ mo _ h4.out).mono ?_; rintro e w6 ⟨rfl, ⟨n6, rfl⟩⟩))
  go_ret
  exact ⟨rfl, by repeat (first | exact hb | exact below_then (below_alloc (Below.refl _ _) _) (by simp) hb | apply pw_below_drewN)⟩
theorem day_w (h1 : Aside0 (gotime_absSeconds_days.f (x + 9223371966606163200) = some D)) (h2 : Aside0 (gotime_absDays_split.f D = some (C, cy, a))) (h3 : Aside0 (gotime_absYday_split.f a = some (j, d))) :
    Calls Tryz.prog 109 #[.agg #[.int .u64 0, .int .i64 x, .pointer none]] w fun e w' => e = .returned (.int .i64 d) ∧ Below w.heap.size w w' := by
  go_enter Tryz.func109, Tryz.ntmps109
  go_wp2_with (first | (go_at_call 124; refine (absSec_any x _ hx0 hx1).mono ?_; rintro e w1 ⟨rfl, hb⟩) | (go_at_call 125; refine (gotime_absSeconds_days.calls _ D _ h1.out).mono ?_; rintro e w2 ⟨rfl, ⟨n2, rfl⟩⟩) | (go_at_call 126; refine (gotime_absDays_split.calls _ C cy a _ h2.out).mono ?_; rintro e w3 ⟨rfl, ⟨n3, rfl⟩⟩) | (go_at_call 127; refine (gotime_absYday_split.calls _ j d _ h3.out).mono ?_; rintro e w4 ⟨rfl, ⟨n4, rfl⟩⟩))
  go_ret
  exact ⟨rfl, by repeat (first | exact hb | exact below_then (below_alloc (Below.refl _ _) _) (by simp) hb | apply pw_below_drewN)⟩
theorem weekday_w (h1 : Aside0 (gotime_absSeconds_days.f (x + 9223371966606163200) = some D)) (h2 : Aside0 (gotime_absDays_weekday.f D = some d)) :
    Calls Tryz.prog 131 #[.agg #[.int .u64 0, .int .i64 x, .pointer none]] w fun e w' => e = .returned (.int .i64 d) ∧ Below w.heap.size w w' := by
  go_enter Tryz.func131, Tryz.ntmps131
  go_wp2_with (first | (go_at_call 124; refine (absSec_any x _ hx0 hx1).mono ?_; rintro e w1 ⟨rfl, hb⟩) | (go_at_call 125; refine (gotime_absSeconds_days.calls _ D _ h1.out).mono ?_; rintro e w2 ⟨rfl, ⟨n2, rfl⟩⟩) | (go_at_call 146; refine (gotime_absDays_weekday.calls _ d _ h2.out).mono ?_; rintro e w3 ⟨rfl, ⟨n3, rfl⟩⟩))
  go_ret
  exact ⟨rfl, by repeat (first | exact hb | exact below_then (below_alloc (Below.refl _ _) _) (by simp) hb | apply pw_below_drewN)⟩
theorem hour_w : Calls Tryz.prog 130 #[.agg #[.int .u64 0, .int .i64 x, .pointer none]] w fun e w' => e = .returned (.int .i64 ((x + 9223371966606163200) % 86400 / 3600)) ∧ Below w.heap.size w w' := by
  go_enter Tryz.func130, Tryz.ntmps130
  go_wp2_with (go_at_call 124; refine (absSec_any x _ hx0 hx1).mono ?_; rintro e w1 ⟨rfl, hb⟩)
  go_ret
  exact ⟨ret_i64 (by first | rfl | omega), by repeat (first | exact hb | exact below_then (below_alloc (Below.refl _ _) _) (by simp) hb | apply pw_below_drewN)⟩
theorem minute_w : Calls Tryz.prog 129 #[.agg #[.int .u64 0, .int .i64 x, .pointer none]] w fun e w' => e = .returned (.int .i64 ((x + 9223371966606163200) % 3600 / 60)) ∧ Below w.heap.size w w' := by
  go_enter Tryz.func129, Tryz.ntmps129
  go_wp2_with (go_at_call 124; refine (absSec_any x _ hx0 hx1).mono ?_; rintro e w1 ⟨rfl, hb⟩)
  go_ret
  exact ⟨ret_i64 (by first | rfl | omega), by repeat (first | exact hb | exact below_then (below_alloc (Below.refl _ _) _) (by simp) hb | apply pw_below_drewN)⟩
theorem second_w : Calls Tryz.prog 128 #[.agg #[.int .u64 0, .int .i64 x, .pointer none]] w fun e w' => e = .returned (.int .i64 ((x + 9223371966606163200) % 60)) ∧ Below w.heap.size w w' := by
  go_enter Tryz.func128, Tryz.ntmps128
  go_wp2_with (go_at_call 124; refine (absSec_any x _ hx0 hx1).mono ?_; rintro e w1 ⟨rfl, hb⟩)
  go_ret
  exact ⟨ret_i64 (by first | rfl | omega), by repeat (first | exact hb | exact below_then (below_alloc (Below.refl _ _) _) (by simp) hb | apply pw_below_drewN)⟩
end
theorem norm_in (hi lo base : Int) (w : World) (h0 : 0 ≤ lo) (h1 : lo < base) :
    Calls Tryz.prog 51 #[.int .i64 hi, .int .i64 lo, .int .i64 base] w fun e w' => e = .returned (.tuple #[.int .i64 hi, .int .i64 lo]) ∧ w = w' := by
  have e1 : decide (lo < 0) = false := decide_eq_false (by omega)
  have e2 : decide (base ≤ lo) = false := decide_eq_false (by omega)
  go_enter Tryz.func51, Tryz.ntmps51
  go_wp2
  go_ret2
  exact ⟨rfl, rfl⟩
end Go.Proofs.YtemgofomhjabpaaGreatDoor.Core
namespace Go.Proofs.YtemgofomhjabpaaGreatDoor.Core
open Go.RowKit Go.Proofs.YtemgofomhjabpaaGreatDoorW.PrintWords
theorem dta (y mo d D a b c : Int) (w : World) (hD : Aside0 (gotime_dateToAbsDays.f y mo d = some D)) (ha : a = y) (hb : b = mo) (hc : c = d) :
    Calls Tryz.prog 52 #[.int .i64 a, .int .i64 b, .int .i64 c] w fun e w' => e = .returned (.int .u64 D) ∧ Drawn0 w w' := by
  subst ha; subst hb; subst hc
  exact gotime_dateToAbsDays.calls _ _ _ D _ hD.out
theorem setLoc_after (g b : Nat) (x : Int) (w : World) (hg : w.heap[g]? = some (.cells #[.int .u64 0, .int .i64 x, .pointer none] 79)) (hb : w.cell? ⟨b, 0, none⟩ = some (.bool true)) :
    Calls Tryz.prog 55 #[.pointer (some ⟨g, 0, none⟩), .pointer (some ⟨b, 0, none⟩)] w fun e w' => e = .returned (.tuple #[]) ∧ w.setCell ⟨g, 2, none⟩ (.pointer none) = w' := setLoc_any g b x w hg hb
theorem ret_time {a b : Int} (h : a = b) : Ending.returned (.agg #[.int .u64 0, .int .i64 a, .pointer none]) = .returned (.agg #[.int .u64 0, .int .i64 b, .pointer none]) := by rw [h]
theorem cell_after {w w1 : World} {a : Addr} {v : Value} (h : Below w.heap.size w w1) (hc : w.cell? a = some v) : w1.cell? a = some v := pw_cell_below h hc
theorem after_tm {w w4 : World} {n : Nat} (h : Below ((w.alloc (.cells #[.int .u64 0, .int .i64 0, .pointer none] 79)).drewN n).heap.size ((w.alloc (.cells #[.int .u64 0, .int .i64 0, .pointer none] 79)).drewN n) w4) :
    w4.heap[w.heap.size]? = some (.cells #[.int .u64 0, .int .i64 0, .pointer none] 79) ∧ w.heap.size < w4.heap.size ∧ Below w.heap.size w w4 := by
  have hs : w.heap.size < ((w.alloc (.cells #[.int .u64 0, .int .i64 0, .pointer none] 79)).drewN n).heap.size := by
    show w.heap.size < (w.alloc _).heap.size; simp
  have hb : Below w.heap.size w ((w.alloc (.cells #[.int .u64 0, .int .i64 0, .pointer none] 79)).drewN n) := below_drewN ((Below.refl _ _).alloc (Nat.le_refl _) _) n
  exact ⟨(h.block w.heap.size hs).trans (heap_alloc_new w _), Nat.lt_of_lt_of_le hs h.size, hb.trans (h.mono (Nat.le_of_lt hs))⟩
theorem set_same {w : World} {a : Addr} {u v : Value} (h : w.cell? a = some u) : (w.setCell a v).cell? a = some v := World.cell?_setCell_same _ _ _ h
theorem set_other {w : World} {a b : Addr} {v : Value} (h : a ≠ b) : (w.setCell a v).cell? b = w.cell? b := World.cell?_setCell_other _ _ _ _ h
theorem res3 {w4 : World} {g : Nat} {x0 x1 x2 a b c : Value} {t : TypeId} (o : Obj) (hA : w4.heap[g]? = some (.cells #[x0, x1, x2] t)) :
    ((((w4.setCell ⟨g, 0, none⟩ a).setCell ⟨g, 1, none⟩ b).setCell ⟨g, 2, none⟩ c).alloc o).cell? ⟨g, 0, none⟩ = some a ∧
    ((((w4.setCell ⟨g, 0, none⟩ a).setCell ⟨g, 1, none⟩ b).setCell ⟨g, 2, none⟩ c).alloc o).cell? ⟨g, 1, none⟩ = some b ∧
    ((((w4.setCell ⟨g, 0, none⟩ a).setCell ⟨g, 1, none⟩ b).setCell ⟨g, 2, none⟩ c).alloc o).cell? ⟨g, 2, none⟩ = some c := by
  have h0 : w4.cell? ⟨g, 0, none⟩ = some x0 := by simp [World.cell?, hA]
  have h1 : w4.cell? ⟨g, 1, none⟩ = some x1 := by simp [World.cell?, hA]
  have h2 : w4.cell? ⟨g, 2, none⟩ = some x2 := by simp [World.cell?, hA]
  have k0 : (w4.setCell ⟨g, 0, none⟩ a).cell? ⟨g, 0, none⟩ = some a := set_same h0
  have k1 : ((w4.setCell ⟨g, 0, none⟩ a).setCell ⟨g, 1, none⟩ b).cell? ⟨g, 0, none⟩ = some a := (set_other (by simp)).trans k0
  have k2 : ((w4.setCell ⟨g, 0, none⟩ a).setCell ⟨g, 1, none⟩ b).cell? ⟨g, 1, none⟩ = some b := set_same ((set_other (by simp)).trans h1)
  have j0 := (set_other (v := c) (b := ⟨g, 0, none⟩) (a := ⟨g, 2, none⟩) (by simp)).trans k1
  have j1 := (set_other (v := c) (b := ⟨g, 1, none⟩) (a := ⟨g, 2, none⟩) (by simp)).trans k2
  have j2 : (((w4.setCell ⟨g, 0, none⟩ a).setCell ⟨g, 1, none⟩ b).setCell ⟨g, 2, none⟩ c).cell? ⟨g, 2, none⟩ = some c := set_same ((set_other (by simp)).trans ((set_other (by simp)).trans h2))
  exact ⟨cell_after ((Below.refl _ _).alloc (Nat.le_refl _) o) j0, cell_after ((Below.refl _ _).alloc (Nat.le_refl _) o) j1, cell_after ((Below.refl _ _).alloc (Nat.le_refl _) o) j2⟩
set_option maxRecDepth 100000 in
theorem date_w (y mo d h mi s D : Int) (b : Nat) (w : World) (hm0 : 1 ≤ mo) (hm1 : mo ≤ 12) (hh0 : 0 ≤ h) (hh1 : h ≤ 23) (hi0 : 0 ≤ mi) (hi1 : mi ≤ 59) (hs0 : 0 ≤ s) (hs1 : s ≤ 59)
    (hD : Aside0 (gotime_dateToAbsDays.f y mo d = some D)) (hD0 : 106751991080340 ≤ D) (hD1 : D ≤ 106751991118400) (hb0 : w.cell? ⟨b, 0, none⟩ = some (.bool true)) (hb2 : w.cell? ⟨b, 2, none⟩ = some (.slice none 0 0)) :
    Calls Tryz.prog 43 #[.int .i64 y, .int .i64 mo, .int .i64 d, .int .i64 h, .int .i64 mi, .int .i64 s, .int .i64 0, .pointer (some ⟨b, 0, none⟩)] w
      fun e w' => e = .returned (.agg #[.int .u64 0, .int .i64 (D * 86400 + (h * 3600 + mi * 60 + s) + -9223371966606163200), .pointer none]) ∧ Below w.heap.size w w' := by
  have hk : ∀ o n, ((w.alloc o).drewN n).cell? ⟨b, 2, none⟩ = some (.slice none 0 0) := fun o n => cell_after (below_drewN ((Below.refl _ _).alloc (Nat.le_refl _) o) n) hb2
  have hbB := World.block_lt_of_cell? w ⟨b, 0, none⟩ hb0
  go_enter Tryz.func43, Tryz.ntmps43
  go_wp2_with (first | (go_at_call 51; refine (norm_in _ _ _ _ (by omega) (by omega)).mono ?_; rintro e w' ⟨rfl, rfl⟩) | (go_at_call 52; refine (dta y mo d D _ _ _ _ hD (by omega) (by omega) (by omega)).mono ?_; rintro e w2 ⟨rfl, ⟨n2, rfl⟩⟩) | (go_at_call 53; refine (lookup_any b _ _ (hk _ _)).mono ?_; rintro e w3 ⟨rfl, rfl⟩) | (go_at_call 54; refine (unixTime_any _ _ (by omega) (by omega)).mono ?_; rintro e w4 ⟨rfl, hbl⟩; obtain ⟨hA, hsz, hbw⟩ := after_tm hbl; have hc0 := cell_after hbw hb0; have hcA0 : w4.cell? ⟨w.heap.size, 0, none⟩ = some (.int .u64 0) := (by simp [World.cell?, hA]); have hcA1 : w4.cell? ⟨w.heap.size, 1, none⟩ = some (.int .i64 0) := (by simp [World.cell?, hA]); have hcA2 : w4.cell? ⟨w.heap.size, 2, none⟩ = some (.pointer none) := (by simp [World.cell?, hA]); have hfA0 : w4.frozen? ⟨w.heap.size, 0, none⟩ = false := (by simp [World.frozen?, hA]); have hfA1 : w4.frozen? ⟨w.heap.size, 1, none⟩ = false := (by simp [World.frozen?, hA]); have hfA2 : w4.frozen? ⟨w.heap.size, 2, none⟩ = false := (by simp [World.frozen?, hA]); have hne : w.heap.size ≠ w4.heap.size := Nat.ne_of_lt hsz; have hne' : w4.heap.size ≠ w.heap.size := Nat.ne_of_gt hsz) | (go_at_call 55; refine (setLoc_after _ b _ _ (heap_alloc_new _ _) (cell_after ((Below.refl _ _).alloc (Nat.le_refl _) _) hc0)).mono ?_; rintro e w5 ⟨rfl, rfl⟩))
  obtain ⟨r0, r1, r2⟩ := res3 (a := .int .u64 0) (b := .int .i64 (D * 86400 + (h * 3600 + mi * 60 + s) + -9223372028741760000 + 62135596800)) (c := .pointer none) (.cells #[.int .u64 0, .int .i64 (D * 86400 + (h * 3600 + mi * 60 + s) + -9223372028741760000 + 62135596800), .pointer none] 79) hA
  refine bodyPost_ret (v := .agg #[.int .u64 0, .int .i64 (D * 86400 + (h * 3600 + mi * 60 + s) + -9223372028741760000 + 62135596800), .pointer none]) (by simp [results, Tryz.results43, go_sem, r0, r1, r2]) rfl ⟨ret_time (by omega), ?_⟩
  exact ((((hbw.setCell (Nat.le_refl _) _).setCell (Nat.le_refl _) _).setCell (Nat.le_refl _) _)).alloc (by simpa using Nat.le_of_lt hsz) _
end Go.Proofs.YtemgofomhjabpaaGreatDoor.Core
namespace Go.Proofs.YtemgofomhjabpaaGreatDoor.Core
open Go.RowKit Go.Proofs.YtemgofomhjabpaaGreatDoorW.PrintWords
theorem tmodz (y n : Int) (h : 0 ≤ y) : Int.tmod y n = y % n := Int.tmod_eq_emod_of_nonneg h
theorem leap_some (y : Int) (h : 0 ≤ y) : spec_Leap.f y = some (leapI y) := by
  unfold spec_Leap.f leapI
  rw [tmodz y 4 h, tmodz y 100 h, tmodz y 400 h]
  by_cases h4 : y % 4 = 0
  · rw [if_pos h4]
    by_cases h1 : y % 100 = 0
    · rw [if_pos h1]; simp [h4, h1]; rfl
    · rw [if_neg h1]; simp [h4, h1]
  · rw [if_neg h4]; simp [h4]
theorem days_some (y mo : Int) (h : 0 ≤ y) (m0 : 1 ≤ mo) (m1 : mo ≤ 12) : spec_Days.f y mo = some (daysI y mo) := by
  unfold spec_Days.f daysI
  by_cases h2 : mo = 2
  · rw [if_pos h2, leap_some y h, Option.bind_some]
    cases hl : leapI y with
    | true => rw [if_pos rfl, if_pos ⟨h2, rfl⟩]
    | false => rw [if_neg (by simp), if_pos (by omega), if_pos (by omega), if_neg (by simp)]
  · rw [if_neg h2, if_pos (by omega), if_pos (by omega), if_neg (fun e => h2 e.1)]
theorem days_quiet (y mo : Int) (hd : spec_Days.f y mo = some (daysI y mo)) (w : World) (n : Nat) : Calls Tryz.prog 37 #[.int .i64 y, .int .i64 mo] (w.drewN n) fun e w'' => e = .returned (.int .i64 (daysI y mo)) ∧ ∃ m, w'' = w.drewN m := by
  refine Calls.quiet_of ((spec_Days.calls y mo (daysI y mo) _ hd).mono ?_)
  rintro e w' ⟨rfl, ⟨nd, rfl⟩⟩
  exact ⟨rfl, nd, rfl⟩
def goodM (y mo d h mi s : Int) : Bool := decide (1990 ≤ y ∧ y ≤ 2090 ∧ 1 ≤ mo ∧ mo ≤ 12 ∧ 1 ≤ d ∧ d ≤ daysI y mo ∧ 0 ≤ h ∧ h ≤ 23 ∧ 0 ≤ mi ∧ mi ≤ 59 ∧ 0 ≤ s ∧ s ≤ 59)
set_option maxRecDepth 100000 in
set_option maxHeartbeats 2000000 in
theorem mg_0 (y mo d h mi s : Int) (a0 : ¬ 1990 ≤ y) : GoodC y mo d h mi s false := by
  intro w
  replace a0 : (1990 ≤ y) = False := eq_false a0
  go_enter Tryz.func22, Tryz.ntmps22
  go_wp2
  go_quiet (fail)
  go_wp2
  go_ret
  exact ⟨rfl, by repeat (first | exact Below.refl _ _ | apply below_alloc | apply below_drew1 | apply pw_below_drewN)⟩
set_option maxRecDepth 100000 in
set_option maxHeartbeats 2000000 in
theorem mg_1 (y mo d h mi s : Int) (a0 : 1990 ≤ y) (a1 : ¬ y ≤ 2090) : GoodC y mo d h mi s false := by
  intro w
  replace a1 : (y ≤ 2090) = False := eq_false a1
  go_enter Tryz.func22, Tryz.ntmps22
  go_wp2
  go_quiet (fail)
  go_wp2
  go_ret
  exact ⟨rfl, by repeat (first | exact Below.refl _ _ | apply below_alloc | apply below_drew1 | apply pw_below_drewN)⟩
set_option maxRecDepth 100000 in
set_option maxHeartbeats 2000000 in
theorem mg_2 (y mo d h mi s : Int) (a0 : 1990 ≤ y) (a1 : y ≤ 2090) (a2 : ¬ 1 ≤ mo) : GoodC y mo d h mi s false := by
  intro w
  replace a2 : (1 ≤ mo) = False := eq_false a2
  go_enter Tryz.func22, Tryz.ntmps22
  go_wp2
  go_quiet (fail)
  go_wp2
  go_ret
  exact ⟨rfl, by repeat (first | exact Below.refl _ _ | apply below_alloc | apply below_drew1 | apply pw_below_drewN)⟩
set_option maxRecDepth 100000 in
set_option maxHeartbeats 2000000 in
theorem mg_3 (y mo d h mi s : Int) (a0 : 1990 ≤ y) (a1 : y ≤ 2090) (a2 : 1 ≤ mo) (a3 : ¬ mo ≤ 12) : GoodC y mo d h mi s false := by
  intro w
  replace a3 : (mo ≤ 12) = False := eq_false a3
  go_enter Tryz.func22, Tryz.ntmps22
  go_wp2
  go_quiet (fail)
  go_wp2
  go_ret
  exact ⟨rfl, by repeat (first | exact Below.refl _ _ | apply below_alloc | apply below_drew1 | apply pw_below_drewN)⟩
set_option maxRecDepth 100000 in
set_option maxHeartbeats 2000000 in
theorem mg_4 (y mo d h mi s : Int) (a0 : 1990 ≤ y) (a1 : y ≤ 2090) (a2 : 1 ≤ mo) (a3 : mo ≤ 12) (a4 : ¬ 1 ≤ d) : GoodC y mo d h mi s false := by
  intro w
  replace a4 : (1 ≤ d) = False := eq_false a4
  go_enter Tryz.func22, Tryz.ntmps22
  go_wp2
  go_quiet (fail)
  go_wp2
  go_ret
  exact ⟨rfl, by repeat (first | exact Below.refl _ _ | apply below_alloc | apply below_drew1 | apply pw_below_drewN)⟩
end Go.Proofs.YtemgofomhjabpaaGreatDoor.Core
namespace Go.Proofs.YtemgofomhjabpaaGreatDoor.Core
open Go.RowKit Go.Proofs.YtemgofomhjabpaaGreatDoorW.PrintWords Go.Proofs.YtemgofomhjabpaaGreatDoorW.PrintLast Go.Proofs.YtemgofomhjabpaaGreatDoorW.PrintMore
attribute [local go_sem] max2_int min2_int max_two min_two max_three min_three max_four min_four   -- for this text's walks alone
set_option linter.unusedVariables false
set_option linter.unusedSimpArgs false
mutual
def gronx_zzTrim.j1 : Nat → ByteArray → Option (ByteArray)
  | 0, _ => none
  | k + 1, x0 => gronx_zzTrim.l1 k x0
def gronx_zzTrim.l1 : Nat → ByteArray → Option (ByteArray)
  | 0, _ => none
  | k + 1, x0 => if (x0.size : Int) > 0 then (if 0 ≤ (wrap64 ((x0.size : Int) - 1)) then (if (wrap64 ((x0.size : Int) - 1)) < (x0.size : Int) then (if (bt x0 (wrap64 ((x0.size : Int) - 1))) = 32 then (if (wrap64 ((x0.size : Int) - 1)) ≤ (x0.size : Int) then (gronx_zzTrim.l1 k (x0.extract 0 ((wrap64 ((x0.size : Int) - 1)) : Int).toNat)) else (none)) else (if (bt x0 (wrap64 ((x0.size : Int) - 1))) = 9 then (if (wrap64 ((x0.size : Int) - 1)) ≤ (x0.size : Int) then (gronx_zzTrim.l1 k (x0.extract 0 ((wrap64 ((x0.size : Int) - 1)) : Int).toNat)) else (none)) else (some x0))) else (none)) else (none)) else (some x0)
def gronx_zzTrim.l0 : Nat → ByteArray → Option (ByteArray)
  | 0, _ => none
  | k + 1, x0 => if (x0.size : Int) > 0 then (if 0 < (x0.size : Int) then (if (bt x0 0) = 32 then (if 1 ≤ (x0.size : Int) then (gronx_zzTrim.l0 k (x0.extract 1 x0.size)) else (none)) else (if (bt x0 0) = 9 then (if 1 ≤ (x0.size : Int) then (gronx_zzTrim.l0 k (x0.extract 1 x0.size)) else (none)) else (gronx_zzTrim.j1 k x0))) else (none)) else (gronx_zzTrim.j1 k x0)
end
def gronx_zzTrim.f (k : Nat) (a0 : ByteArray) : Option (ByteArray) := gronx_zzTrim.l0 k a0
set_option maxHeartbeats 8000000 in
set_option maxRecDepth 100000 in
theorem gronx_zzTrim.calls (k : Nat) (a0 : ByteArray) (r : ByteArray) (w : World) (h : gronx_zzTrim.f k a0 = some r) :
    Calls Tryz.prog 56 #[.string a0] w fun e w' => e = .returned (.string r) ∧ Drawn0 w w' := by
  have H : (gronx_zzTrim.l0 k a0) = some r := h
  clear h
  have HC2 := Aside0.mk H
  clear H
  go_enter Tryz.func56, Tryz.ntmps56
  go_upto_block 0 with (fail)
  go_cut [0] (fun v0 wc => ∃ (kq : Nat) (x0_1 : ByteArray), v0 = .string x0_1 ∧ Aside0 (gronx_zzTrim.j1 kq x0_1 = some r) ∧ Aside0 (kq ≤ k) ∧ Drawn0 w wc)
  case first =>
    have H := HC2.out
    clear HC2
    have H' := Aside0.mk H
    clear H
    go_wp2
    go_loopg [0] k (fun kq v0 w' => ∃ (x0_1 : ByteArray), v0 = .string x0_1 ∧ Aside0 (gronx_zzTrim.l0 kq x0_1 = some r) ∧ Aside0 (kq ≤ k) ∧ Drawn0 w w')
    case atStart => exact ⟨(a0), (by first | rfl | (simp; done) | (simp [*]; done)), H', ⟨Nat.le_refl _⟩, by repeat (first | exact Drawn0.refl _ | apply Drawn0.step)⟩
    case round =>
      clear H'
      try clear p2
      obtain ⟨x0_1, rfl, HA, HK1, ⟨m1, rfl⟩⟩ := hrel
      cases gk with
      | zero => exact absurd HA.out (by simp [gronx_zzTrim.l0])
      | succ k1 =>
        have H := HA.out
        clear HA
        simp only [gronx_zzTrim.l0] at H
        by_cases c3 : (x0_1.size : Int) > 0
        · rw [if_pos c3] at H
          have c3b0 : decide (0 < (x0_1.size : Int)) = true := decide_eq_true c3
          have c3b1 : decide (0 < x0_1.size) = true := decide_eq_true (by omega)
          clear c3
          (first | rw [c3b0] | (simp only [i64_w, i32_w]; rw [c3b0]) | skip)
          by_cases c4 : 0 < (x0_1.size : Int)
          · rw [if_pos c4] at H
            have c4b0 : decide (0 < (x0_1.size : Int)) = true := decide_eq_true c4
            have c4b1 : decide (0 < x0_1.size) = true := decide_eq_true (by omega)
            clear c4
            by_cases c6 : (bt x0_1 0) = 32
            · rw [if_pos c6] at H
              have c6b0 : ((bt x0_1 0) == 32) = true := beq_iff_eq.mpr c6
              have c6b1 : ((bt x0_1 0) != 32) = false := bne_eq_false_iff_eq.mpr c6
              clear c6
              by_cases c7 : 1 ≤ (x0_1.size : Int)
              · rw [if_pos c7] at H
                have c7b0 := eq_true c7
                have c7b1 : decide (1 ≤ (x0_1.size : Int)) = true := decide_eq_true c7
                clear c7
                have H' := Aside0.mk H
                clear H
                have p5 : 0 ≤ (0 : Int) := (by omega)
                have q5 : 0 < x0_1.size := (by have : (0 : Int) < (x0_1.size : Int) := of_decide_eq_true (by first | (with_reducible assumption) | assumption); omega)
                have hx5 : ∀ h : 0 < x0_1.size, ((x0_1[0]'h).toNat : Int) = bt x0_1 0 := bt_at x0_1 0
                clear p5
                have qi5 : (0 < (x0_1.size : Int)) = True := eq_true (of_decide_eq_true (by first | (with_reducible assumption) | assumption))
                replace q5 := eq_true q5
                go_wp2
                go_roundg k1
                case measure => have := HK1.out; omega
                case rel => exact ⟨(x0_1.extract 1 x0_1.size), (by first | rfl | (simp; done) | (simp [*]; done)), H', ⟨by have := HK1.out; omega⟩, by repeat (first | exact Drawn0.refl _ | apply Drawn0.step)⟩
              · rw [if_neg c7] at H
                exact absurd H (by simp)
            · rw [if_neg c6] at H
              have c6b0 : ((bt x0_1 0) == 32) = false := beq_eq_false_iff_ne.mpr c6
              have c6b1 : ((bt x0_1 0) != 32) = true := bne_iff_ne.mpr c6
              by_cases c9 : (bt x0_1 0) = 9
              · rw [if_pos c9] at H
                have c9b0 : ((bt x0_1 0) == 9) = true := beq_iff_eq.mpr c9
                have c9b1 : ((bt x0_1 0) != 9) = false := bne_eq_false_iff_eq.mpr c9
                clear c9
                by_cases c10 : 1 ≤ (x0_1.size : Int)
                · rw [if_pos c10] at H
                  have c10b0 := eq_true c10
                  have c10b1 : decide (1 ≤ (x0_1.size : Int)) = true := decide_eq_true c10
                  clear c10
                  have H' := Aside0.mk H
                  clear H
                  have p5 : 0 ≤ (0 : Int) := (by omega)
                  have q5 : 0 < x0_1.size := (by have : (0 : Int) < (x0_1.size : Int) := of_decide_eq_true (by first | (with_reducible assumption) | assumption); omega)
                  have hx5 : ∀ h : 0 < x0_1.size, ((x0_1[0]'h).toNat : Int) = bt x0_1 0 := bt_at x0_1 0
                  clear p5
                  have qi5 : (0 < (x0_1.size : Int)) = True := eq_true (of_decide_eq_true (by first | (with_reducible assumption) | assumption))
                  replace q5 := eq_true q5
                  have p8 : 0 ≤ (0 : Int) := (by omega)
                  have q8 : 0 < x0_1.size := (by have : (0 : Int) < (x0_1.size : Int) := of_decide_eq_true (by first | (with_reducible assumption) | assumption); omega)
                  have hx8 : ∀ h : 0 < x0_1.size, ((x0_1[0]'h).toNat : Int) = bt x0_1 0 := bt_at x0_1 0
                  clear p8
                  have qi8 : (0 < (x0_1.size : Int)) = True := eq_true (of_decide_eq_true (by first | (with_reducible assumption) | assumption))
                  replace q8 := eq_true q8
                  go_wp2
                  go_roundg k1
                  case measure => have := HK1.out; omega
                  case rel => exact ⟨(x0_1.extract 1 x0_1.size), (by first | rfl | (simp; done) | (simp [*]; done)), H', ⟨by have := HK1.out; omega⟩, by repeat (first | exact Drawn0.refl _ | apply Drawn0.step)⟩
                · rw [if_neg c10] at H
                  exact absurd H (by simp)
              · rw [if_neg c9] at H
                have c9b0 : ((bt x0_1 0) == 9) = false := beq_eq_false_iff_ne.mpr c9
                have c9b1 : ((bt x0_1 0) != 9) = true := bne_iff_ne.mpr c9
                have H' := Aside0.mk H
                clear H
                have p5 : 0 ≤ (0 : Int) := (by omega)
                have q5 : 0 < x0_1.size := (by have : (0 : Int) < (x0_1.size : Int) := of_decide_eq_true (by first | (with_reducible assumption) | assumption); omega)
                have hx5 : ∀ h : 0 < x0_1.size, ((x0_1[0]'h).toNat : Int) = bt x0_1 0 := bt_at x0_1 0
                clear p5
                have qi5 : (0 < (x0_1.size : Int)) = True := eq_true (of_decide_eq_true (by first | (with_reducible assumption) | assumption))
                replace q5 := eq_true q5
                have p8 : 0 ≤ (0 : Int) := (by omega)
                have q8 : 0 < x0_1.size := (by have : (0 : Int) < (x0_1.size : Int) := of_decide_eq_true (by first | (with_reducible assumption) | assumption); omega)
                have hx8 : ∀ h : 0 < x0_1.size, ((x0_1[0]'h).toNat : Int) = bt x0_1 0 := bt_at x0_1 0
                clear p8
                have qi8 : (0 < (x0_1.size : Int)) = True := eq_true (of_decide_eq_true (by first | (with_reducible assumption) | assumption))
                replace q8 := eq_true q8
                go_wp2
                go_meet
                case rel => exact ⟨_, (x0_1), (by first | rfl | (simp; done) | (simp [*]; done)), H', ⟨by have := HK1.out; first | omega | exact Nat.le_refl _⟩, by repeat (first | exact Drawn0.refl _ | apply Drawn0.step)⟩
          · rw [if_neg c4] at H
            exact absurd H (by simp)
        · rw [if_neg c3] at H
          have c3b0 : decide (0 < (x0_1.size : Int)) = false := decide_eq_false c3
          have c3b1 : decide (0 < x0_1.size) = false := decide_eq_false (by omega)
          clear c3
          (first | rw [c3b0] | (simp only [i64_w, i32_w]; rw [c3b0]) | skip)
          have H' := Aside0.mk H
          clear H
          go_wp2
          go_meet
          case rel => exact ⟨_, (x0_1), (by first | rfl | (simp; done) | (simp [*]; done)), H', ⟨by have := HK1.out; first | omega | exact Nat.le_refl _⟩, by repeat (first | exact Drawn0.refl _ | apply Drawn0.step)⟩
  case rest =>
    clear HC2
    try clear c1
    try clear p2
    try clear c3
    try clear c3b0
    try clear c3b1
    try clear c4
    try clear c4b0
    try clear c4b1
    try clear c5
    try clear p5
    try clear q5
    try clear hx5
    try clear qi5
    try clear c6
    try clear c6b0
    try clear c6b1
    try clear c7
    try clear c7b0
    try clear c7b1
    try clear p8
    try clear q8
    try clear hx8
    try clear qi8
    try clear c9
    try clear c9b0
    try clear c9b1
    try clear c10
    try clear c10b0
    try clear c10b1
    try clear p2
    try clear p5
    try clear p8
    try clear q5
    try clear q8
    obtain ⟨kq, x0_1, rfl, HA, HJ1, ⟨mc1, rfl⟩⟩ := hcut
    cases kq with
    | zero => exact absurd HA.out (by simp [gronx_zzTrim.j1])
    | succ kj1 =>
      have H := HA.out
      clear HA
      simp only [gronx_zzTrim.j1] at H
      have H' := Aside0.mk H
      clear H
      go_wp2
      go_loopg [0] kj1 (fun kq v0 w' => ∃ (x0_2 : ByteArray), v0 = .string x0_2 ∧ Aside0 (gronx_zzTrim.l1 kq x0_2 = some r) ∧ Aside0 (kq ≤ kj1) ∧ Drawn0 w w')
      case atStart => exact ⟨(x0_1), (by first | rfl | (simp; done) | (simp [*]; done)), H', ⟨Nat.le_refl _⟩, by repeat (first | exact Drawn0.refl _ | apply Drawn0.step)⟩
      case round =>
        clear H'
        try clear c1
        try clear p2
        try clear c3
        try clear c3b0
        try clear c3b1
        try clear c4
        try clear c4b0
        try clear c4b1
        try clear c5
        try clear p5
        try clear q5
        try clear hx5
        try clear qi5
        try clear c6
        try clear c6b0
        try clear c6b1
        try clear c7
        try clear c7b0
        try clear c7b1
        try clear p8
        try clear q8
        try clear hx8
        try clear qi8
        try clear c9
        try clear c9b0
        try clear c9b1
        try clear c10
        try clear c10b0
        try clear c10b1
        try clear p2
        try clear p5
        try clear p8
        try clear q5
        try clear q8
        obtain ⟨x0_2, rfl, HA, HK2, ⟨m2, rfl⟩⟩ := hrel
        cases gk with
        | zero => exact absurd HA.out (by simp [gronx_zzTrim.l1])
        | succ k2 =>
          have H := HA.out
          clear HA
          simp only [gronx_zzTrim.l1] at H
          by_cases c11 : (x0_2.size : Int) > 0
          · rw [if_pos c11] at H
            have c11b0 : decide (0 < (x0_2.size : Int)) = true := decide_eq_true c11
            have c11b1 : decide (0 < x0_2.size) = true := decide_eq_true (by omega)
            clear c11
            obtain ⟨ji12, hji12⟩ : ∃ j_ : Int, (wrap64 ((x0_2.size : Int) - 1)) = j_ := ⟨_, rfl⟩
            replace H : (if 0 ≤ (ji12) then (if (ji12) < (x0_2.size : Int) then (if (bt x0_2 (ji12)) = 32 then (if (ji12) ≤ (x0_2.size : Int) then (gronx_zzTrim.l1 k2 (x0_2.extract 0 ((ji12) : Int).toNat)) else (none)) else (if (bt x0_2 (ji12)) = 9 then (if (ji12) ≤ (x0_2.size : Int) then (gronx_zzTrim.l1 k2 (x0_2.extract 0 ((ji12) : Int).toNat)) else (none)) else (some x0_2))) else (none)) else (none)) = some r := by first | (rw [hji12] at H; exact H) | (simp only [hji12] at H ⊢; exact H)
            have hji12w : (IntKind.i64.wrap ((x0_2.size : Int) - 1)) = ji12 := (i64_w _).trans hji12
            by_cases c13 : 0 ≤ (ji12)
            · rw [if_pos c13] at H
              have c13b0 : decide (0 ≤ (ji12)) = true := decide_eq_true c13
              clear c13
              by_cases c14 : (ji12) < (x0_2.size : Int)
              · rw [if_pos c14] at H
                have c14b0 : decide ((ji12) < (x0_2.size : Int)) = true := decide_eq_true c14
                clear c14
                by_cases c16 : (bt x0_2 (ji12)) = 32
                · rw [if_pos c16] at H
                  have c16b0 : ((bt x0_2 (ji12)) == 32) = true := beq_iff_eq.mpr c16
                  have c16b1 : ((bt x0_2 (ji12)) != 32) = false := bne_eq_false_iff_eq.mpr c16
                  clear c16
                  have c17b0 := eq_true (of_decide_eq_true (by first | (with_reducible assumption) | assumption) : 0 ≤ (ji12))
                  by_cases c18 : (ji12) ≤ (x0_2.size : Int)
                  · rw [if_pos c18] at H
                    have c18b0 := eq_true c18
                    have c18b1 : decide ((ji12) ≤ (x0_2.size : Int)) = true := decide_eq_true c18
                    clear c18
                    have H' := Aside0.mk H
                    clear H
                    have p15 : 0 ≤ ((ji12) : Int) := of_decide_eq_true (by first | (with_reducible assumption) | assumption)
                    have q15 : (ji12) < (x0_2.size : Int) := of_decide_eq_true (by first | (with_reducible assumption) | assumption)
                    have hx15 := bt_at x0_2 (ji12)
                    replace p15 := eq_true p15
                    replace q15 := eq_true q15
                    go_wp2
                    go_roundg k2
                    case measure => have := HJ1.out; have := HK2.out; omega
                    case rel => exact ⟨(x0_2.extract 0 ((ji12) : Int).toNat), (by first | rfl | (simp; done) | (simp only [← hji12] <;> (first | rfl | simp)) | (simp [*]; done)), H', ⟨by have := HJ1.out; have := HK2.out; omega⟩, by repeat (first | exact Drawn0.refl _ | apply Drawn0.step)⟩
                  · rw [if_neg c18] at H
                    exact absurd H (by simp)
                · rw [if_neg c16] at H
                  have c16b0 : ((bt x0_2 (ji12)) == 32) = false := beq_eq_false_iff_ne.mpr c16
                  have c16b1 : ((bt x0_2 (ji12)) != 32) = true := bne_iff_ne.mpr c16
                  by_cases c20 : (bt x0_2 (ji12)) = 9
                  · rw [if_pos c20] at H
                    have c20b0 : ((bt x0_2 (ji12)) == 9) = true := beq_iff_eq.mpr c20
                    have c20b1 : ((bt x0_2 (ji12)) != 9) = false := bne_eq_false_iff_eq.mpr c20
                    clear c20
                    have c21b0 := eq_true (of_decide_eq_true (by first | (with_reducible assumption) | assumption) : 0 ≤ (ji12))
                    by_cases c22 : (ji12) ≤ (x0_2.size : Int)
                    · rw [if_pos c22] at H
                      have c22b0 := eq_true c22
                      have c22b1 : decide ((ji12) ≤ (x0_2.size : Int)) = true := decide_eq_true c22
                      clear c22
                      have H' := Aside0.mk H
                      clear H
                      have p15 : 0 ≤ ((ji12) : Int) := of_decide_eq_true (by first | (with_reducible assumption) | assumption)
                      have q15 : (ji12) < (x0_2.size : Int) := of_decide_eq_true (by first | (with_reducible assumption) | assumption)
                      have hx15 := bt_at x0_2 (ji12)
                      replace p15 := eq_true p15
                      replace q15 := eq_true q15
                      have p19 : 0 ≤ ((ji12) : Int) := of_decide_eq_true (by first | (with_reducible assumption) | assumption)
                      have q19 : (ji12) < (x0_2.size : Int) := of_decide_eq_true (by first | (with_reducible assumption) | assumption)
                      have hx19 := bt_at x0_2 (ji12)
                      replace p19 := eq_true p19
                      replace q19 := eq_true q19
                      go_wp2
                      go_roundg k2
                      case measure => have := HJ1.out; have := HK2.out; omega
                      case rel => exact ⟨(x0_2.extract 0 ((ji12) : Int).toNat), (by first | rfl | (simp; done) | (simp only [← hji12] <;> (first | rfl | simp)) | (simp [*]; done)), H', ⟨by have := HJ1.out; have := HK2.out; omega⟩, by repeat (first | exact Drawn0.refl _ | apply Drawn0.step)⟩
                    · rw [if_neg c22] at H
                      exact absurd H (by simp)
                  · rw [if_neg c20] at H
                    have c20b0 : ((bt x0_2 (ji12)) == 9) = false := beq_eq_false_iff_ne.mpr c20
                    have c20b1 : ((bt x0_2 (ji12)) != 9) = true := bne_iff_ne.mpr c20
                    obtain rfl := Option.some.inj H
                    have p15 : 0 ≤ ((ji12) : Int) := of_decide_eq_true (by first | (with_reducible assumption) | assumption)
                    have q15 : (ji12) < (x0_2.size : Int) := of_decide_eq_true (by first | (with_reducible assumption) | assumption)
                    have hx15 := bt_at x0_2 (ji12)
                    replace p15 := eq_true p15
                    replace q15 := eq_true q15
                    have p19 : 0 ≤ ((ji12) : Int) := of_decide_eq_true (by first | (with_reducible assumption) | assumption)
                    have q19 : (ji12) < (x0_2.size : Int) := of_decide_eq_true (by first | (with_reducible assumption) | assumption)
                    have hx19 := bt_at x0_2 (ji12)
                    replace p19 := eq_true p19
                    replace q19 := eq_true q19
                    go_wp2
                    go_ret
                    exact ⟨by first | rfl | (simp; done) | (simp only [← hji12] <;> (first | rfl | simp)) | (simp [*]; done), by repeat (first | exact Drawn0.refl _ | apply Drawn0.step)⟩
              · rw [if_neg c14] at H
                exact absurd H (by simp)
            · rw [if_neg c13] at H
              exact absurd H (by simp)
          · rw [if_neg c11] at H
            have c11b0 : decide (0 < (x0_2.size : Int)) = false := decide_eq_false c11
            have c11b1 : decide (0 < x0_2.size) = false := decide_eq_false (by omega)
            clear c11
            obtain rfl := Option.some.inj H
            go_wp2
            go_ret
            exact ⟨by first | rfl | (simp; done) | (simp [*]; done), by repeat (first | exact Drawn0.refl _ | apply Drawn0.step)⟩
end Go.Proofs.YtemgofomhjabpaaGreatDoor.Core
namespace Go.Proofs.YtemgofomhjabpaaGreatDoor.Core
open Go.RowKit Go.Proofs.YtemgofomhjabpaaGreatDoorW.PrintWords Go.Proofs.YtemgofomhjabpaaGreatDoorW.PrintLast Go.Proofs.YtemgofomhjabpaaGreatDoorW.PrintMore
attribute [local go_sem] max2_int min2_int max_two min_two max_three min_three max_four min_four   -- for this text's walks alone
set_option linter.unusedVariables false
set_option linter.unusedSimpArgs false
def gronx_expression.f (a0 : ByteArray) : Option (ByteArray × Bool) := if a0.toList = ([64, 121, 101, 97, 114, 108, 121] : List UInt8) then (some ((⟨#[48, 32, 48, 32, 49, 32, 49, 32, 42]⟩ : ByteArray), true)) else (if a0.toList = ([64, 97, 110, 110, 117, 97, 108, 108, 121] : List UInt8) then (some ((⟨#[48, 32, 48, 32, 49, 32, 49, 32, 42]⟩ : ByteArray), true)) else (if a0.toList = ([64, 109, 111, 110, 116, 104, 108, 121] : List UInt8) then (some ((⟨#[48, 32, 48, 32, 49, 32, 42, 32, 42]⟩ : ByteArray), true)) else (if a0.toList = ([64, 119, 101, 101, 107, 108, 121] : List UInt8) then (some ((⟨#[48, 32, 48, 32, 42, 32, 42, 32, 48]⟩ : ByteArray), true)) else (if a0.toList = ([64, 100, 97, 105, 108, 121] : List UInt8) then (some ((⟨#[48, 32, 48, 32, 42, 32, 42, 32, 42]⟩ : ByteArray), true)) else (if a0.toList = ([64, 104, 111, 117, 114, 108, 121] : List UInt8) then (some ((⟨#[48, 32, 42, 32, 42, 32, 42, 32, 42]⟩ : ByteArray), true)) else (if a0.toList = ([64, 97, 108, 119, 97, 121, 115] : List UInt8) then (some ((⟨#[42, 32, 42, 32, 42, 32, 42, 32, 42]⟩ : ByteArray), true)) else (if a0.toList = ([64, 53, 109, 105, 110, 117, 116, 101, 115] : List UInt8) then (some ((⟨#[42, 47, 53, 32, 42, 32, 42, 32, 42, 32, 42]⟩ : ByteArray), true)) else (if a0.toList = ([64, 49, 48, 109, 105, 110, 117, 116, 101, 115] : List UInt8) then (some ((⟨#[42, 47, 49, 48, 32, 42, 32, 42, 32, 42, 32, 42]⟩ : ByteArray), true)) else (if a0.toList = ([64, 49, 53, 109, 105, 110, 117, 116, 101, 115] : List UInt8) then (some ((⟨#[42, 47, 49, 53, 32, 42, 32, 42, 32, 42, 32, 42]⟩ : ByteArray), true)) else (if a0.toList = ([64, 51, 48, 109, 105, 110, 117, 116, 101, 115] : List UInt8) then (some ((⟨#[48, 44, 51, 48, 32, 42, 32, 42, 32, 42, 32, 42]⟩ : ByteArray), true)) else (if a0.toList = ([64, 101, 118, 101, 114, 121, 115, 101, 99, 111, 110, 100] : List UInt8) then (some ((⟨#[42, 32, 42, 32, 42, 32, 42, 32, 42, 32, 42]⟩ : ByteArray), true)) else (some ((⟨#[]⟩ : ByteArray), false)))))))))))))
set_option maxHeartbeats 8000000 in
set_option maxRecDepth 100000 in
theorem gronx_expression.calls (a0 : ByteArray) (r1 : ByteArray) (r2 : Bool) (w : World) (h : gronx_expression.f a0 = some (r1, r2)) :
    Calls Tryz.prog 57 #[.string a0] w fun e w' => e = .returned (.tuple #[.string r1, .bool r2]) ∧ Drawn0 w w' := by
  have H : (if a0.toList = ([64, 121, 101, 97, 114, 108, 121] : List UInt8) then (some ((⟨#[48, 32, 48, 32, 49, 32, 49, 32, 42]⟩ : ByteArray), true)) else (if a0.toList = ([64, 97, 110, 110, 117, 97, 108, 108, 121] : List UInt8) then (some ((⟨#[48, 32, 48, 32, 49, 32, 49, 32, 42]⟩ : ByteArray), true)) else (if a0.toList = ([64, 109, 111, 110, 116, 104, 108, 121] : List UInt8) then (some ((⟨#[48, 32, 48, 32, 49, 32, 42, 32, 42]⟩ : ByteArray), true)) else (if a0.toList = ([64, 119, 101, 101, 107, 108, 121] : List UInt8) then (some ((⟨#[48, 32, 48, 32, 42, 32, 42, 32, 48]⟩ : ByteArray), true)) else (if a0.toList = ([64, 100, 97, 105, 108, 121] : List UInt8) then (some ((⟨#[48, 32, 48, 32, 42, 32, 42, 32, 42]⟩ : ByteArray), true)) else (if a0.toList = ([64, 104, 111, 117, 114, 108, 121] : List UInt8) then (some ((⟨#[48, 32, 42, 32, 42, 32, 42, 32, 42]⟩ : ByteArray), true)) else (if a0.toList = ([64, 97, 108, 119, 97, 121, 115] : List UInt8) then (some ((⟨#[42, 32, 42, 32, 42, 32, 42, 32, 42]⟩ : ByteArray), true)) else (if a0.toList = ([64, 53, 109, 105, 110, 117, 116, 101, 115] : List UInt8) then (some ((⟨#[42, 47, 53, 32, 42, 32, 42, 32, 42, 32, 42]⟩ : ByteArray), true)) else (if a0.toList = ([64, 49, 48, 109, 105, 110, 117, 116, 101, 115] : List UInt8) then (some ((⟨#[42, 47, 49, 48, 32, 42, 32, 42, 32, 42, 32, 42]⟩ : ByteArray), true)) else (if a0.toList = ([64, 49, 53, 109, 105, 110, 117, 116, 101, 115] : List UInt8) then (some ((⟨#[42, 47, 49, 53, 32, 42, 32, 42, 32, 42, 32, 42]⟩ : ByteArray), true)) else (if a0.toList = ([64, 51, 48, 109, 105, 110, 117, 116, 101, 115] : List UInt8) then (some ((⟨#[48, 44, 51, 48, 32, 42, 32, 42, 32, 42, 32, 42]⟩ : ByteArray), true)) else (if a0.toList = ([64, 101, 118, 101, 114, 121, 115, 101, 99, 111, 110, 100] : List UInt8) then (some ((⟨#[42, 32, 42, 32, 42, 32, 42, 32, 42, 32, 42]⟩ : ByteArray), true)) else (some ((⟨#[]⟩ : ByteArray), false)))))))))))))) = some (r1, r2) := h
  clear h
  by_cases c2 : a0.toList = ([64, 121, 101, 97, 114, 108, 121] : List UInt8)
  · rw [if_pos c2] at H
    have c2b0 : (a0.toList == ([64, 121, 101, 97, 114, 108, 121] : List UInt8)) = true := beq_iff_eq.mpr c2
    have c2b1 : (a0.toList != ([64, 121, 101, 97, 114, 108, 121] : List UInt8)) = false := bne_eq_false_iff_eq.mpr c2
    clear c2
    simp only [Option.some.injEq, Prod.mk.injEq] at H
    obtain ⟨rfl, rfl⟩ := H
    go_enter Tryz.func57, Tryz.ntmps57
    go_wp2
    go_ret2
    exact ⟨by first | rfl | (simp; done) | (simp [*]; done), by repeat (first | exact Drawn0.refl _ | apply Drawn0.step)⟩
  · rw [if_neg c2] at H
    have c2b0 : (a0.toList == ([64, 121, 101, 97, 114, 108, 121] : List UInt8)) = false := beq_eq_false_iff_ne.mpr c2
    have c2b1 : (a0.toList != ([64, 121, 101, 97, 114, 108, 121] : List UInt8)) = true := bne_iff_ne.mpr c2
    by_cases c3 : a0.toList = ([64, 97, 110, 110, 117, 97, 108, 108, 121] : List UInt8)
    · rw [if_pos c3] at H
      have c3b0 : (a0.toList == ([64, 97, 110, 110, 117, 97, 108, 108, 121] : List UInt8)) = true := beq_iff_eq.mpr c3
      have c3b1 : (a0.toList != ([64, 97, 110, 110, 117, 97, 108, 108, 121] : List UInt8)) = false := bne_eq_false_iff_eq.mpr c3
      clear c3
      simp only [Option.some.injEq, Prod.mk.injEq] at H
      obtain ⟨rfl, rfl⟩ := H
      go_enter Tryz.func57, Tryz.ntmps57
      go_wp2
      go_ret2
      exact ⟨by first | rfl | (simp; done) | (simp [*]; done), by repeat (first | exact Drawn0.refl _ | apply Drawn0.step)⟩
    · rw [if_neg c3] at H
      have c3b0 : (a0.toList == ([64, 97, 110, 110, 117, 97, 108, 108, 121] : List UInt8)) = false := beq_eq_false_iff_ne.mpr c3
      have c3b1 : (a0.toList != ([64, 97, 110, 110, 117, 97, 108, 108, 121] : List UInt8)) = true := bne_iff_ne.mpr c3
      by_cases c4 : a0.toList = ([64, 109, 111, 110, 116, 104, 108, 121] : List UInt8)
      · rw [if_pos c4] at H
        have c4b0 : (a0.toList == ([64, 109, 111, 110, 116, 104, 108, 121] : List UInt8)) = true := beq_iff_eq.mpr c4
        have c4b1 : (a0.toList != ([64, 109, 111, 110, 116, 104, 108, 121] : List UInt8)) = false := bne_eq_false_iff_eq.mpr c4
        clear c4
        simp only [Option.some.injEq, Prod.mk.injEq] at H
        obtain ⟨rfl, rfl⟩ := H
        go_enter Tryz.func57, Tryz.ntmps57
        go_wp2
        go_ret2
        exact ⟨by first | rfl | (simp; done) | (simp [*]; done), by repeat (first | exact Drawn0.refl _ | apply Drawn0.step)⟩
      · rw [if_neg c4] at H
        have c4b0 : (a0.toList == ([64, 109, 111, 110, 116, 104, 108, 121] : List UInt8)) = false := beq_eq_false_iff_ne.mpr c4
        have c4b1 : (a0.toList != ([64, 109, 111, 110, 116, 104, 108, 121] : List UInt8)) = true := bne_iff_ne.mpr c4
        by_cases c5 : a0.toList = ([64, 119, 101, 101, 107, 108, 121] : List UInt8)
        · rw [if_pos c5] at H
          have c5b0 : (a0.toList == ([64, 119, 101, 101, 107, 108, 121] : List UInt8)) = true := beq_iff_eq.mpr c5
          have c5b1 : (a0.toList != ([64, 119, 101, 101, 107, 108, 121] : List UInt8)) = false := bne_eq_false_iff_eq.mpr c5
          clear c5
          simp only [Option.some.injEq, Prod.mk.injEq] at H
          obtain ⟨rfl, rfl⟩ := H
          go_enter Tryz.func57, Tryz.ntmps57
          go_wp2
          go_ret2
          exact ⟨by first | rfl | (simp; done) | (simp [*]; done), by repeat (first | exact Drawn0.refl _ | apply Drawn0.step)⟩
        · rw [if_neg c5] at H
          have c5b0 : (a0.toList == ([64, 119, 101, 101, 107, 108, 121] : List UInt8)) = false := beq_eq_false_iff_ne.mpr c5
          have c5b1 : (a0.toList != ([64, 119, 101, 101, 107, 108, 121] : List UInt8)) = true := bne_iff_ne.mpr c5
          by_cases c6 : a0.toList = ([64, 100, 97, 105, 108, 121] : List UInt8)
          · rw [if_pos c6] at H
            have c6b0 : (a0.toList == ([64, 100, 97, 105, 108, 121] : List UInt8)) = true := beq_iff_eq.mpr c6
            have c6b1 : (a0.toList != ([64, 100, 97, 105, 108, 121] : List UInt8)) = false := bne_eq_false_iff_eq.mpr c6
            clear c6
            simp only [Option.some.injEq, Prod.mk.injEq] at H
            obtain ⟨rfl, rfl⟩ := H
            go_enter Tryz.func57, Tryz.ntmps57
            go_wp2
            go_ret2
            exact ⟨by first | rfl | (simp; done) | (simp [*]; done), by repeat (first | exact Drawn0.refl _ | apply Drawn0.step)⟩
          · rw [if_neg c6] at H
            have c6b0 : (a0.toList == ([64, 100, 97, 105, 108, 121] : List UInt8)) = false := beq_eq_false_iff_ne.mpr c6
            have c6b1 : (a0.toList != ([64, 100, 97, 105, 108, 121] : List UInt8)) = true := bne_iff_ne.mpr c6
            by_cases c7 : a0.toList = ([64, 104, 111, 117, 114, 108, 121] : List UInt8)
            · rw [if_pos c7] at H
              have c7b0 : (a0.toList == ([64, 104, 111, 117, 114, 108, 121] : List UInt8)) = true := beq_iff_eq.mpr c7
              have c7b1 : (a0.toList != ([64, 104, 111, 117, 114, 108, 121] : List UInt8)) = false := bne_eq_false_iff_eq.mpr c7
              clear c7
              simp only [Option.some.injEq, Prod.mk.injEq] at H
              obtain ⟨rfl, rfl⟩ := H
              go_enter Tryz.func57, Tryz.ntmps57
              go_wp2
              go_ret2
              exact ⟨by first | rfl | (simp; done) | (simp [*]; done), by repeat (first | exact Drawn0.refl _ | apply Drawn0.step)⟩
            · rw [if_neg c7] at H
              have c7b0 : (a0.toList == ([64, 104, 111, 117, 114, 108, 121] : List UInt8)) = false := beq_eq_false_iff_ne.mpr c7
              have c7b1 : (a0.toList != ([64, 104, 111, 117, 114, 108, 121] : List UInt8)) = true := bne_iff_ne.mpr c7
              by_cases c8 : a0.toList = ([64, 97, 108, 119, 97, 121, 115] : List UInt8)
              · rw [if_pos c8] at H
                have c8b0 : (a0.toList == ([64, 97, 108, 119, 97, 121, 115] : List UInt8)) = true := beq_iff_eq.mpr c8
                have c8b1 : (a0.toList != ([64, 97, 108, 119, 97, 121, 115] : List UInt8)) = false := bne_eq_false_iff_eq.mpr c8
                clear c8
                simp only [Option.some.injEq, Prod.mk.injEq] at H
                obtain ⟨rfl, rfl⟩ := H
                go_enter Tryz.func57, Tryz.ntmps57
                go_wp2
                go_ret2
                exact ⟨by first | rfl | (simp; done) | (simp [*]; done), by repeat (first | exact Drawn0.refl _ | apply Drawn0.step)⟩
              · rw [if_neg c8] at H
                have c8b0 : (a0.toList == ([64, 97, 108, 119, 97, 121, 115] : List UInt8)) = false := beq_eq_false_iff_ne.mpr c8
                have c8b1 : (a0.toList != ([64, 97, 108, 119, 97, 121, 115] : List UInt8)) = true := bne_iff_ne.mpr c8
                by_cases c9 : a0.toList = ([64, 53, 109, 105, 110, 117, 116, 101, 115] : List UInt8)
                · rw [if_pos c9] at H
                  have c9b0 : (a0.toList == ([64, 53, 109, 105, 110, 117, 116, 101, 115] : List UInt8)) = true := beq_iff_eq.mpr c9
                  have c9b1 : (a0.toList != ([64, 53, 109, 105, 110, 117, 116, 101, 115] : List UInt8)) = false := bne_eq_false_iff_eq.mpr c9
                  clear c9
                  simp only [Option.some.injEq, Prod.mk.injEq] at H
                  obtain ⟨rfl, rfl⟩ := H
                  go_enter Tryz.func57, Tryz.ntmps57
                  go_wp2
                  go_ret2
                  exact ⟨by first | rfl | (simp; done) | (simp [*]; done), by repeat (first | exact Drawn0.refl _ | apply Drawn0.step)⟩
                · rw [if_neg c9] at H
                  have c9b0 : (a0.toList == ([64, 53, 109, 105, 110, 117, 116, 101, 115] : List UInt8)) = false := beq_eq_false_iff_ne.mpr c9
                  have c9b1 : (a0.toList != ([64, 53, 109, 105, 110, 117, 116, 101, 115] : List UInt8)) = true := bne_iff_ne.mpr c9
                  by_cases c10 : a0.toList = ([64, 49, 48, 109, 105, 110, 117, 116, 101, 115] : List UInt8)
                  · rw [if_pos c10] at H
                    have c10b0 : (a0.toList == ([64, 49, 48, 109, 105, 110, 117, 116, 101, 115] : List UInt8)) = true := beq_iff_eq.mpr c10
                    have c10b1 : (a0.toList != ([64, 49, 48, 109, 105, 110, 117, 116, 101, 115] : List UInt8)) = false := bne_eq_false_iff_eq.mpr c10
                    clear c10
                    simp only [Option.some.injEq, Prod.mk.injEq] at H
                    obtain ⟨rfl, rfl⟩ := H
                    go_enter Tryz.func57, Tryz.ntmps57
                    go_wp2
                    go_ret2
                    exact ⟨by first | rfl | (simp; done) | (simp [*]; done), by repeat (first | exact Drawn0.refl _ | apply Drawn0.step)⟩
                  · rw [if_neg c10] at H
                    have c10b0 : (a0.toList == ([64, 49, 48, 109, 105, 110, 117, 116, 101, 115] : List UInt8)) = false := beq_eq_false_iff_ne.mpr c10
                    have c10b1 : (a0.toList != ([64, 49, 48, 109, 105, 110, 117, 116, 101, 115] : List UInt8)) = true := bne_iff_ne.mpr c10
                    by_cases c11 : a0.toList = ([64, 49, 53, 109, 105, 110, 117, 116, 101, 115] : List UInt8)
                    · rw [if_pos c11] at H
                      have c11b0 : (a0.toList == ([64, 49, 53, 109, 105, 110, 117, 116, 101, 115] : List UInt8)) = true := beq_iff_eq.mpr c11
                      have c11b1 : (a0.toList != ([64, 49, 53, 109, 105, 110, 117, 116, 101, 115] : List UInt8)) = false := bne_eq_false_iff_eq.mpr c11
                      clear c11
                      simp only [Option.some.injEq, Prod.mk.injEq] at H
                      obtain ⟨rfl, rfl⟩ := H
                      go_enter Tryz.func57, Tryz.ntmps57
                      go_wp2
                      go_ret2
                      exact ⟨by first | rfl | (simp; done) | (simp [*]; done), by repeat (first | exact Drawn0.refl _ | apply Drawn0.step)⟩
                    · rw [if_neg c11] at H
                      have c11b0 : (a0.toList == ([64, 49, 53, 109, 105, 110, 117, 116, 101, 115] : List UInt8)) = false := beq_eq_false_iff_ne.mpr c11
                      have c11b1 : (a0.toList != ([64, 49, 53, 109, 105, 110, 117, 116, 101, 115] : List UInt8)) = true := bne_iff_ne.mpr c11
                      by_cases c12 : a0.toList = ([64, 51, 48, 109, 105, 110, 117, 116, 101, 115] : List UInt8)
                      · rw [if_pos c12] at H
                        have c12b0 : (a0.toList == ([64, 51, 48, 109, 105, 110, 117, 116, 101, 115] : List UInt8)) = true := beq_iff_eq.mpr c12
                        have c12b1 : (a0.toList != ([64, 51, 48, 109, 105, 110, 117, 116, 101, 115] : List UInt8)) = false := bne_eq_false_iff_eq.mpr c12
                        clear c12
                        simp only [Option.some.injEq, Prod.mk.injEq] at H
                        obtain ⟨rfl, rfl⟩ := H
                        go_enter Tryz.func57, Tryz.ntmps57
                        go_wp2
                        go_ret2
                        exact ⟨by first | rfl | (simp; done) | (simp [*]; done), by repeat (first | exact Drawn0.refl _ | apply Drawn0.step)⟩
                      · rw [if_neg c12] at H
                        have c12b0 : (a0.toList == ([64, 51, 48, 109, 105, 110, 117, 116, 101, 115] : List UInt8)) = false := beq_eq_false_iff_ne.mpr c12
                        have c12b1 : (a0.toList != ([64, 51, 48, 109, 105, 110, 117, 116, 101, 115] : List UInt8)) = true := bne_iff_ne.mpr c12
                        by_cases c13 : a0.toList = ([64, 101, 118, 101, 114, 121, 115, 101, 99, 111, 110, 100] : List UInt8)
                        · rw [if_pos c13] at H
                          have c13b0 : (a0.toList == ([64, 101, 118, 101, 114, 121, 115, 101, 99, 111, 110, 100] : List UInt8)) = true := beq_iff_eq.mpr c13
                          have c13b1 : (a0.toList != ([64, 101, 118, 101, 114, 121, 115, 101, 99, 111, 110, 100] : List UInt8)) = false := bne_eq_false_iff_eq.mpr c13
                          clear c13
                          simp only [Option.some.injEq, Prod.mk.injEq] at H
                          obtain ⟨rfl, rfl⟩ := H
                          go_enter Tryz.func57, Tryz.ntmps57
                          go_wp2
                          go_ret2
                          exact ⟨by first | rfl | (simp; done) | (simp [*]; done), by repeat (first | exact Drawn0.refl _ | apply Drawn0.step)⟩
                        · rw [if_neg c13] at H
                          have c13b0 : (a0.toList == ([64, 101, 118, 101, 114, 121, 115, 101, 99, 111, 110, 100] : List UInt8)) = false := beq_eq_false_iff_ne.mpr c13
                          have c13b1 : (a0.toList != ([64, 101, 118, 101, 114, 121, 115, 101, 99, 111, 110, 100] : List UInt8)) = true := bne_iff_ne.mpr c13
                          simp only [Option.some.injEq, Prod.mk.injEq] at H
                          obtain ⟨rfl, rfl⟩ := H
                          go_enter Tryz.func57, Tryz.ntmps57
                          go_wp2
                          go_ret2
                          exact ⟨by first | rfl | (simp; done) | (simp [*]; done), by repeat (first | exact Drawn0.refl _ | apply Drawn0.step)⟩
end Go.Proofs.YtemgofomhjabpaaGreatDoor.Core
namespace Go.Proofs.YtemgofomhjabpaaGreatDoor.Core
open Go.RowKit Go.Proofs.YtemgofomhjabpaaGreatDoorW.PrintWords Go.Proofs.YtemgofomhjabpaaGreatDoorW.PrintLast Go.Proofs.YtemgofomhjabpaaGreatDoorW.PrintMore
attribute [local go_sem] max2_int min2_int max_two min_two max_three min_three max_four min_four   -- for this text's walks alone
set_option linter.unusedVariables false
set_option linter.unusedSimpArgs false
mutual
def gronx_zzSpaces.l0 : Nat → ByteArray → List Int → Bool → Int → Option (ByteArray)
  | 0, _, _, _, _ => none
  | k + 1, x0, x3, x4, x5 => if x5 < (x0.size : Int) then (if 0 ≤ x5 then (if (bt x0 x5) = 32 then (gronx_zzSpaces.j1 k x0 x3 x4 x5 ((bt x0 x5) == 32)) else (if (bt x0 x5) = 9 then (gronx_zzSpaces.j1 k x0 x3 x4 x5 ((bt x0 x5) == 9)) else (if (bt x0 x5) = 10 then (gronx_zzSpaces.j1 k x0 x3 x4 x5 ((bt x0 x5) == 10)) else (if (bt x0 x5) = 12 then (gronx_zzSpaces.j1 k x0 x3 x4 x5 ((bt x0 x5) == 12)) else (gronx_zzSpaces.j1 k x0 x3 x4 x5 ((bt x0 x5) == 13)))))) else (none)) else (some (strOfNums x3))
def gronx_zzSpaces.j1 : Nat → ByteArray → List Int → Bool → Int → Bool → Option (ByteArray)
  | 0, _, _, _, _, _ => none
  | k + 1, x0, x3, x4, x5, x21 => if x21 = true then (if x4 = true then (gronx_zzSpaces.l0 k x0 x3 true (wrap64 (x5 + 1))) else (if x3.length < 140737488355328 then (gronx_zzSpaces.l0 k x0 (x3 ++ [32]) true (wrap64 (x5 + 1))) else (none))) else (if 0 ≤ x5 then (if x5 < (x0.size : Int) then (if x3.length < 140737488355328 then (gronx_zzSpaces.l0 k x0 (x3 ++ [bt x0 x5]) false (wrap64 (x5 + 1))) else (none)) else (none)) else (none))
end
def gronx_zzSpaces.f (k : Nat) (a0 : ByteArray) : Option (ByteArray) := gronx_zzSpaces.l0 k a0 ([] : List Int) false 0
set_option maxHeartbeats 8000000 in
set_option maxRecDepth 100000 in
theorem gronx_zzSpaces.calls (k : Nat) (a0 : ByteArray) (r : ByteArray) (w : World) (h : gronx_zzSpaces.f k a0 = some r) :
    Calls Tryz.prog 59 #[.string a0] w fun e w' => e = .returned (.string r) ∧ Below w.heap.size w w' := by
  have HB := Aside0.mk (Below.refl w.heap.size w)
  have H : (gronx_zzSpaces.l0 k a0 ([] : List Int) false 0) = some r := h
  clear h
  have H' := Aside0.mk H
  clear H
  go_enter Tryz.func59, Tryz.ntmps59
  go_wp2
  go_loopg [3, 4, 5] k (fun kq v3 v4 v5 w' => ∃ (x3_1 : List Int) (x4_1 : Bool) (x5_1 : Int), v4 = .bool x4_1 ∧ v5 = .int .i64 x5_1 ∧ Aside0 (gronx_zzSpaces.l0 kq a0 x3_1 x4_1 x5_1 = some r) ∧ Aside0 (kq ≤ k) ∧ Aside0 (Kd.R (Kd.int .u8) 5 w' w.heap.size (fun _ => True) v3 x3_1) ∧ Aside0 (Below w.heap.size w w'))
  case atStart => exact ⟨(([] : List Int)), (false), (0), (by first | rfl | (simp; done) | (simp [*]; done)), (by first | rfl | (simp; done) | (simp [*]; done)), H', ⟨Nat.le_refl _⟩, ⟨by first | exact Kd.R_nil _ _ _ _ _ | exact Kd.N_nil _ _ _ _ _ | exact Kd.V_nil _ _ _ _ _ | exact Kd.Q_nil _ _ _ _ _ | exact Kd.S_nil _ _ _ _ _⟩, ⟨by repeat (first | (with_reducible first | exact HB.out | apply below_alloc | apply pw_below_drewN | apply below_drew1) | exact HB.out)⟩⟩
  case round =>
    clear H'
    obtain ⟨x3_1, x4_1, x5_1, rfl, rfl, HA, HK1, HO_3, HB⟩ := hrel
    cases gk with
    | zero => exact absurd HA.out (by simp [gronx_zzSpaces.l0])
    | succ k1 =>
      have H := HA.out
      clear HA
      simp only [gronx_zzSpaces.l0] at H
      by_cases c2 : x5_1 < (a0.size : Int)
      · rw [if_pos c2] at H
        have c2b0 : decide (x5_1 < (a0.size : Int)) = true := decide_eq_true c2
        clear c2
        by_cases c3 : 0 ≤ x5_1
        · rw [if_pos c3] at H
          have c3b0 : decide (0 ≤ x5_1) = true := decide_eq_true c3
          clear c3
          have HC5 := Aside0.mk H
          clear H
          have p4 : 0 ≤ (x5_1 : Int) := of_decide_eq_true (by first | (with_reducible assumption) | assumption)
          have q4 : x5_1 < (a0.size : Int) := of_decide_eq_true (by first | (with_reducible assumption) | assumption)
          have hx4 := bt_at a0 x5_1
          replace p4 := eq_true p4
          replace q4 := eq_true q4
          go_upto_if 21 with (fail)
          go_cut [21] (fun v21 wc => ∃ (kq : Nat) (x21_4 : Bool), v21 = .bool x21_4 ∧ Aside0 (gronx_zzSpaces.j1 kq a0 x3_1 x4_1 x5_1 x21_4 = some r) ∧ Aside0 (kq ≤ k1) ∧ Aside0 (Kd.R (Kd.int .u8) 5 wc w.heap.size (fun _ => True) u3 x3_1) ∧ Aside0 (Below w.heap.size w wc))
          case first =>
            have H := HC5.out
            clear HC5
            by_cases c6 : (bt a0 x5_1) = 32
            · rw [if_pos c6] at H
              have c6b0 : ((bt a0 x5_1) == 32) = true := beq_iff_eq.mpr c6
              have c6b1 : ((bt a0 x5_1) != 32) = false := bne_eq_false_iff_eq.mpr c6
              clear c6
              (first | rw [c6b0] | (simp only [i64_w, i32_w]; rw [c6b0]) | skip)
              have H' := Aside0.mk H
              clear H
              go_wp2
              go_meet
              case rel => exact ⟨_, (((bt a0 x5_1) == 32)), (by first | rfl | (simp; done) | (simp [*]; done)), H', ⟨by have := HK1.out; first | omega | exact Nat.le_refl _⟩, ⟨by (with_reducible repeat (first | apply Kd.R_alloc | apply Kd.R_drewN | apply Kd.R_drew)); exact HO_3.out⟩, ⟨by repeat (first | (with_reducible first | exact HB.out | apply below_alloc | apply pw_below_drewN | apply below_drew1) | exact HB.out)⟩⟩
            · rw [if_neg c6] at H
              have c6b0 : ((bt a0 x5_1) == 32) = false := beq_eq_false_iff_ne.mpr c6
              have c6b1 : ((bt a0 x5_1) != 32) = true := bne_iff_ne.mpr c6
              (first | rw [c6b0] | (simp only [i64_w, i32_w]; rw [c6b0]) | skip)
              by_cases c7 : (bt a0 x5_1) = 9
              · rw [if_pos c7] at H
                have c7b0 : ((bt a0 x5_1) == 9) = true := beq_iff_eq.mpr c7
                have c7b1 : ((bt a0 x5_1) != 9) = false := bne_eq_false_iff_eq.mpr c7
                clear c7
                have H' := Aside0.mk H
                clear H
                go_wp2
                go_meet
                case rel => exact ⟨_, (((bt a0 x5_1) == 9)), (by first | rfl | (simp; done) | (simp [*]; done)), H', ⟨by have := HK1.out; first | omega | exact Nat.le_refl _⟩, ⟨by (with_reducible repeat (first | apply Kd.R_alloc | apply Kd.R_drewN | apply Kd.R_drew)); exact HO_3.out⟩, ⟨by repeat (first | (with_reducible first | exact HB.out | apply below_alloc | apply pw_below_drewN | apply below_drew1) | exact HB.out)⟩⟩
              · rw [if_neg c7] at H
                have c7b0 : ((bt a0 x5_1) == 9) = false := beq_eq_false_iff_ne.mpr c7
                have c7b1 : ((bt a0 x5_1) != 9) = true := bne_iff_ne.mpr c7
                by_cases c8 : (bt a0 x5_1) = 10
                · rw [if_pos c8] at H
                  have c8b0 : ((bt a0 x5_1) == 10) = true := beq_iff_eq.mpr c8
                  have c8b1 : ((bt a0 x5_1) != 10) = false := bne_eq_false_iff_eq.mpr c8
                  clear c8
                  have H' := Aside0.mk H
                  clear H
                  go_wp2
                  go_meet
                  case rel => exact ⟨_, (((bt a0 x5_1) == 10)), (by first | rfl | (simp; done) | (simp [*]; done)), H', ⟨by have := HK1.out; first | omega | exact Nat.le_refl _⟩, ⟨by (with_reducible repeat (first | apply Kd.R_alloc | apply Kd.R_drewN | apply Kd.R_drew)); exact HO_3.out⟩, ⟨by repeat (first | (with_reducible first | exact HB.out | apply below_alloc | apply pw_below_drewN | apply below_drew1) | exact HB.out)⟩⟩
                · rw [if_neg c8] at H
                  have c8b0 : ((bt a0 x5_1) == 10) = false := beq_eq_false_iff_ne.mpr c8
                  have c8b1 : ((bt a0 x5_1) != 10) = true := bne_iff_ne.mpr c8
                  by_cases c9 : (bt a0 x5_1) = 12
                  · rw [if_pos c9] at H
                    have c9b0 : ((bt a0 x5_1) == 12) = true := beq_iff_eq.mpr c9
                    have c9b1 : ((bt a0 x5_1) != 12) = false := bne_eq_false_iff_eq.mpr c9
                    clear c9
                    have H' := Aside0.mk H
                    clear H
                    go_wp2
                    go_meet
                    case rel => exact ⟨_, (((bt a0 x5_1) == 12)), (by first | rfl | (simp; done) | (simp [*]; done)), H', ⟨by have := HK1.out; first | omega | exact Nat.le_refl _⟩, ⟨by (with_reducible repeat (first | apply Kd.R_alloc | apply Kd.R_drewN | apply Kd.R_drew)); exact HO_3.out⟩, ⟨by repeat (first | (with_reducible first | exact HB.out | apply below_alloc | apply pw_below_drewN | apply below_drew1) | exact HB.out)⟩⟩
                  · rw [if_neg c9] at H
                    have c9b0 : ((bt a0 x5_1) == 12) = false := beq_eq_false_iff_ne.mpr c9
                    have c9b1 : ((bt a0 x5_1) != 12) = true := bne_iff_ne.mpr c9
                    have H' := Aside0.mk H
                    clear H
                    go_wp2
                    go_meet
                    case rel => exact ⟨_, (((bt a0 x5_1) == 13)), (by first | rfl | (simp; done) | (simp [*]; done)), H', ⟨by have := HK1.out; first | omega | exact Nat.le_refl _⟩, ⟨by (with_reducible repeat (first | apply Kd.R_alloc | apply Kd.R_drewN | apply Kd.R_drew)); exact HO_3.out⟩, ⟨by repeat (first | (with_reducible first | exact HB.out | apply below_alloc | apply pw_below_drewN | apply below_drew1) | exact HB.out)⟩⟩
          case rest =>
            clear HC5
            try clear c2
            try clear c2b0
            try clear p2
            try clear c3
            try clear c3b0
            try clear p4
            try clear q4
            try clear hx4
            try clear c5
            try clear c6
            try clear c6b0
            try clear c6b1
            try clear c7
            try clear c7b0
            try clear c7b1
            try clear c8
            try clear c8b0
            try clear c8b1
            try clear c9
            try clear c9b0
            try clear c9b1
            try clear p4
            try clear q4
            obtain ⟨kq, x21_4, rfl, HA, HJ4, HO_3, HB⟩ := hcut
            cases kq with
            | zero => exact absurd HA.out (by simp [gronx_zzSpaces.j1])
            | succ kj4 =>
              have H := HA.out
              clear HA
              simp only [gronx_zzSpaces.j1] at H
              by_cases c10 : x21_4 = true
              · subst c10
                have H1 : (if x4_1 = true then (gronx_zzSpaces.l0 kj4 a0 x3_1 true (wrap64 (x5_1 + 1))) else (if x3_1.length < 140737488355328 then (gronx_zzSpaces.l0 kj4 a0 (x3_1 ++ [32]) true (wrap64 (x5_1 + 1))) else (none))) = some r := by rw [if_pos rfl] at H; exact H
                clear H
                have H := H1
                clear H1
                by_cases c11 : x4_1 = true
                · subst c11
                  have H1 : (gronx_zzSpaces.l0 kj4 a0 x3_1 true (wrap64 (x5_1 + 1))) = some r := by rw [if_pos rfl] at H; exact H
                  clear H
                  have H := H1
                  clear H1
                  have H' := Aside0.mk H
                  clear H
                  go_wp2
                  go_roundg kj4
                  case measure => have := HK1.out; have := HJ4.out; omega
                  case rel => exact ⟨(x3_1), (true), (wrap64 (x5_1 + 1)), (by first | rfl | (simp; done) | (simp [*]; done)), (by first | rfl | (simp; done) | (simp [*]; done)), H', ⟨by have := HK1.out; have := HJ4.out; omega⟩, ⟨by (with_reducible repeat (first | apply Kd.R_alloc | apply Kd.R_drewN | apply Kd.R_drew)); exact HO_3.out⟩, ⟨by repeat (first | (with_reducible first | exact HB.out | apply below_alloc | apply pw_below_drewN | apply below_drew1) | exact HB.out)⟩⟩
                · replace c11 := Bool.eq_false_iff.mpr c11
                  subst c11
                  have H1 : (if x3_1.length < 140737488355328 then (gronx_zzSpaces.l0 kj4 a0 (x3_1 ++ [32]) true (wrap64 (x5_1 + 1))) else (none)) = some r := by rw [if_neg (show ¬ (false = true) by decide)] at H; exact H
                  clear H
                  have H := H1
                  clear H1
                  by_cases c12 : x3_1.length < 140737488355328
                  · rw [if_pos c12] at H
                    have LMc12 := Aside0.mk c12
                    clear c12
                    obtain ⟨y323, hy323⟩ : ∃ y_ : List Int, y_ = (x3_1 ++ [32]) := ⟨_, rfl⟩
                    replace H : (gronx_zzSpaces.l0 kj4 a0 y323 true (wrap64 (x5_1 + 1))) = some r := by first | (rw [hy323]; with_reducible exact H) | (have H2_ := (Option.bind_some _ _).symm.trans H; rw [hy323]; with_reducible exact H2_) | (have H2_ := (Option.bind_some _ _).symm.trans H; with_reducible exact H2_) | with_reducible exact H | (rw [hy323]; exact H) | exact H
                    have Ny323 := Aside0.mk hy323
                    clear hy323
                    have H' := Aside0.mk H
                    clear H
                    go_wp2_with (first | ((with_reducible refine gate_builtin (b := .append) (xs := #[.tmp 29, .tmp 30]) rfl ?_); at_builtin; refine Kd.R_append (Kd.int .u8) (w0 := w) w.heap.size rfl (.tmp 29) (.tmp 30) 137 5 (.int .u8 0) 1 rfl Tryz.underlying137 info5 rfl (by decide) (by omega) u3 x3_1 32 [.int .u8 32] (fun _ => True) (fun _ => False) rfl rfl ?aP (fun _ hk => hk.elim) ?aF ?aO ?aB ?aS ?aL ?_; (case aP => exact rfl); (case aB => exact (by repeat (first | (with_reducible first | exact HB.out | apply below_alloc | apply pw_below_drewN | apply below_drew1) | exact HB.out))); (case aF => exact (fun _ _ => trivial)); (case aO => exact (by (with_reducible repeat (first | apply Kd.R_alloc | apply Kd.R_drewN | apply Kd.R_drew)); exact HO_3.out)); (case aS => exact (below_size (by repeat (first | (with_reducible first | exact HB.out | apply below_alloc | apply pw_below_drewN | apply below_drew1) | exact HB.out)))); (case aL => have := LMc12.out; omega); intro v324 w13 ho hb hg hat; rw [← Ny323.out] at ho; have n0_ := Aside0.mk (hb); have n1_ := Aside0.mk (ho); clear HB; clear HO_3; have HB := n0_; have HO325 := n1_; clear n0_ n1_; clear ho hb hg hat))
                    go_roundg kj4
                    case measure => have := HK1.out; have := HJ4.out; omega
                    case rel => exact ⟨(y323), (true), (wrap64 (x5_1 + 1)), (by first | rfl | (simp; done) | (simp [*]; done)), (by first | rfl | (simp; done) | (simp [*]; done)), H', ⟨by have := HK1.out; have := HJ4.out; omega⟩, ⟨by (with_reducible repeat (first | apply Kd.R_alloc | apply Kd.R_drewN | apply Kd.R_drew)); exact HO325.out⟩, ⟨by repeat (first | (with_reducible first | exact HB.out | apply below_alloc | apply pw_below_drewN | apply below_drew1) | exact HB.out)⟩⟩
                  · rw [if_neg c12] at H
                    exact absurd H (by simp)
              · replace c10 := Bool.eq_false_iff.mpr c10
                subst c10
                have H1 : (if 0 ≤ x5_1 then (if x5_1 < (a0.size : Int) then (if x3_1.length < 140737488355328 then (gronx_zzSpaces.l0 kj4 a0 (x3_1 ++ [bt a0 x5_1]) false (wrap64 (x5_1 + 1))) else (none)) else (none)) else (none)) = some r := by rw [if_neg (show ¬ (false = true) by decide)] at H; exact H
                clear H
                have H := H1
                clear H1
                by_cases c14 : 0 ≤ x5_1
                · rw [if_pos c14] at H
                  have c14b0 : decide (0 ≤ x5_1) = true := decide_eq_true c14
                  clear c14
                  by_cases c15 : x5_1 < (a0.size : Int)
                  · rw [if_pos c15] at H
                    have c15b0 : decide (x5_1 < (a0.size : Int)) = true := decide_eq_true c15
                    clear c15
                    by_cases c17 : x3_1.length < 140737488355328
                    · rw [if_pos c17] at H
                      have LMc17 := Aside0.mk c17
                      clear c17
                      obtain ⟨y326, hy326⟩ : ∃ y_ : List Int, y_ = (x3_1 ++ [bt a0 x5_1]) := ⟨_, rfl⟩
                      replace H : (gronx_zzSpaces.l0 kj4 a0 y326 false (wrap64 (x5_1 + 1))) = some r := by first | (rw [hy326]; with_reducible exact H) | (have H2_ := (Option.bind_some _ _).symm.trans H; rw [hy326]; with_reducible exact H2_) | (have H2_ := (Option.bind_some _ _).symm.trans H; with_reducible exact H2_) | with_reducible exact H | (rw [hy326]; exact H) | exact H
                      have Ny326 := Aside0.mk hy326
                      clear hy326
                      have H' := Aside0.mk H
                      clear H
                      have p16 : 0 ≤ (x5_1 : Int) := of_decide_eq_true (by first | (with_reducible assumption) | assumption)
                      have q16 : x5_1 < (a0.size : Int) := of_decide_eq_true (by first | (with_reducible assumption) | assumption)
                      have hx16 := bt_at a0 x5_1
                      replace p16 := eq_true p16
                      replace q16 := eq_true q16
                      go_wp2_with (first | ((with_reducible refine gate_builtin (b := .append) (xs := #[.tmp 15, .tmp 19]) rfl ?_); at_builtin; refine Kd.R_append (Kd.int .u8) (w0 := w) w.heap.size rfl (.tmp 15) (.tmp 19) 137 5 (.int .u8 0) 1 rfl Tryz.underlying137 info5 rfl (by decide) (by omega) u3 x3_1 (bt a0 x5_1) [.int .u8 (bt a0 x5_1)] (fun _ => True) (fun _ => False) rfl rfl ?aP (fun _ hk => hk.elim) ?aF ?aO ?aB ?aS ?aL ?_; (case aP => exact rfl); (case aB => exact (by repeat (first | (with_reducible first | exact HB.out | apply below_alloc | apply pw_below_drewN | apply below_drew1) | exact HB.out))); (case aF => exact (fun _ _ => trivial)); (case aO => exact (by (with_reducible repeat (first | apply Kd.R_alloc | apply Kd.R_drewN | apply Kd.R_drew)); exact HO_3.out)); (case aS => exact (below_size (by repeat (first | (with_reducible first | exact HB.out | apply below_alloc | apply pw_below_drewN | apply below_drew1) | exact HB.out)))); (case aL => have := LMc17.out; omega); intro v327 w18 ho hb hg hat; rw [← Ny326.out] at ho; have n0_ := Aside0.mk (hb); have n1_ := Aside0.mk (ho); clear HB; clear HO_3; have HB := n0_; have HO328 := n1_; clear n0_ n1_; clear ho hb hg hat))
                      go_roundg kj4
                      case measure => have := HK1.out; have := HJ4.out; omega
                      case rel => exact ⟨(y326), (false), (wrap64 (x5_1 + 1)), (by first | rfl | (simp; done) | (simp [*]; done)), (by first | rfl | (simp; done) | (simp [*]; done)), H', ⟨by have := HK1.out; have := HJ4.out; omega⟩, ⟨by (with_reducible repeat (first | apply Kd.R_alloc | apply Kd.R_drewN | apply Kd.R_drew)); exact HO328.out⟩, ⟨by repeat (first | (with_reducible first | exact HB.out | apply below_alloc | apply pw_below_drewN | apply below_drew1) | exact HB.out)⟩⟩
                    · rw [if_neg c17] at H
                      exact absurd H (by simp)
                  · rw [if_neg c15] at H
                    exact absurd H (by simp)
                · rw [if_neg c14] at H
                  exact absurd H (by simp)
        · rw [if_neg c3] at H
          exact absurd H (by simp)
      · rw [if_neg c2] at H
        have c2b0 : decide (x5_1 < (a0.size : Int)) = false := decide_eq_false c2
        clear c2
        obtain rfl := Option.some.inj H
        have hcv19 := own_string (P := Tryz.prog) Tryz.underlying137 Tryz.underlying5 Tryz.underlying9 (Kd.own_of_R HO_3.out)
        go_wp2
        go_ret
        exact ⟨by first | rfl | (simp [errW_none, errW_some] <;> rfl) | (simp [*, errW_none, errW_some] <;> rfl), by repeat (first | (with_reducible first | exact HB.out | apply below_alloc | apply pw_below_drewN | apply below_drew1) | exact HB.out)⟩
end Go.Proofs.YtemgofomhjabpaaGreatDoor.Core
namespace Go.Proofs.YtemgofomhjabpaaGreatDoor.Core
open Go.RowKit Go.Proofs.YtemgofomhjabpaaGreatDoorW.PrintWords Go.Proofs.YtemgofomhjabpaaGreatDoorW.PrintLast Go.Proofs.YtemgofomhjabpaaGreatDoorW.PrintMore
attribute [local go_sem] max2_int min2_int max_two min_two max_three min_three max_four min_four   -- for this text's walks alone
set_option linter.unusedVariables false
set_option linter.unusedSimpArgs false
def gronx_literal.f (a0 : ByteArray) : Option (ByteArray) := if a0.toList = ([83, 85, 78] : List UInt8) then (some (⟨#[48]⟩ : ByteArray)) else (if a0.toList = ([77, 79, 78] : List UInt8) then (some (⟨#[49]⟩ : ByteArray)) else (if a0.toList = ([84, 85, 69] : List UInt8) then (some (⟨#[50]⟩ : ByteArray)) else (if a0.toList = ([87, 69, 68] : List UInt8) then (some (⟨#[51]⟩ : ByteArray)) else (if a0.toList = ([84, 72, 85] : List UInt8) then (some (⟨#[52]⟩ : ByteArray)) else (if a0.toList = ([70, 82, 73] : List UInt8) then (some (⟨#[53]⟩ : ByteArray)) else (if a0.toList = ([83, 65, 84] : List UInt8) then (some (⟨#[54]⟩ : ByteArray)) else (if a0.toList = ([74, 65, 78] : List UInt8) then (some (⟨#[49]⟩ : ByteArray)) else (if a0.toList = ([70, 69, 66] : List UInt8) then (some (⟨#[50]⟩ : ByteArray)) else (if a0.toList = ([77, 65, 82] : List UInt8) then (some (⟨#[51]⟩ : ByteArray)) else (if a0.toList = ([65, 80, 82] : List UInt8) then (some (⟨#[52]⟩ : ByteArray)) else (if a0.toList = ([77, 65, 89] : List UInt8) then (some (⟨#[53]⟩ : ByteArray)) else (if a0.toList = ([74, 85, 78] : List UInt8) then (some (⟨#[54]⟩ : ByteArray)) else (if a0.toList = ([74, 85, 76] : List UInt8) then (some (⟨#[55]⟩ : ByteArray)) else (if a0.toList = ([65, 85, 71] : List UInt8) then (some (⟨#[56]⟩ : ByteArray)) else (if a0.toList = ([83, 69, 80] : List UInt8) then (some (⟨#[57]⟩ : ByteArray)) else (if a0.toList = ([79, 67, 84] : List UInt8) then (some (⟨#[49, 48]⟩ : ByteArray)) else (if a0.toList = ([78, 79, 86] : List UInt8) then (some (⟨#[49, 49]⟩ : ByteArray)) else (if a0.toList = ([68, 69, 67] : List UInt8) then (some (⟨#[49, 50]⟩ : ByteArray)) else (some (⟨#[]⟩ : ByteArray))))))))))))))))))))
set_option maxHeartbeats 8000000 in
set_option maxRecDepth 100000 in
theorem gronx_literal.calls (a0 : ByteArray) (r : ByteArray) (w : World) (h : gronx_literal.f a0 = some r) :
    Calls Tryz.prog 73 #[.string a0] w fun e w' => e = .returned (.string r) ∧ Drawn0 w w' := by
  have H : (if a0.toList = ([83, 85, 78] : List UInt8) then (some (⟨#[48]⟩ : ByteArray)) else (if a0.toList = ([77, 79, 78] : List UInt8) then (some (⟨#[49]⟩ : ByteArray)) else (if a0.toList = ([84, 85, 69] : List UInt8) then (some (⟨#[50]⟩ : ByteArray)) else (if a0.toList = ([87, 69, 68] : List UInt8) then (some (⟨#[51]⟩ : ByteArray)) else (if a0.toList = ([84, 72, 85] : List UInt8) then (some (⟨#[52]⟩ : ByteArray)) else (if a0.toList = ([70, 82, 73] : List UInt8) then (some (⟨#[53]⟩ : ByteArray)) else (if a0.toList = ([83, 65, 84] : List UInt8) then (some (⟨#[54]⟩ : ByteArray)) else (if a0.toList = ([74, 65, 78] : List UInt8) then (some (⟨#[49]⟩ : ByteArray)) else (if a0.toList = ([70, 69, 66] : List UInt8) then (some (⟨#[50]⟩ : ByteArray)) else (if a0.toList = ([77, 65, 82] : List UInt8) then (some (⟨#[51]⟩ : ByteArray)) else (if a0.toList = ([65, 80, 82] : List UInt8) then (some (⟨#[52]⟩ : ByteArray)) else (if a0.toList = ([77, 65, 89] : List UInt8) then (some (⟨#[53]⟩ : ByteArray)) else (if a0.toList = ([74, 85, 78] : List UInt8) then (some (⟨#[54]⟩ : ByteArray)) else (if a0.toList = ([74, 85, 76] : List UInt8) then (some (⟨#[55]⟩ : ByteArray)) else (if a0.toList = ([65, 85, 71] : List UInt8) then (some (⟨#[56]⟩ : ByteArray)) else (if a0.toList = ([83, 69, 80] : List UInt8) then (some (⟨#[57]⟩ : ByteArray)) else (if a0.toList = ([79, 67, 84] : List UInt8) then (some (⟨#[49, 48]⟩ : ByteArray)) else (if a0.toList = ([78, 79, 86] : List UInt8) then (some (⟨#[49, 49]⟩ : ByteArray)) else (if a0.toList = ([68, 69, 67] : List UInt8) then (some (⟨#[49, 50]⟩ : ByteArray)) else (some (⟨#[]⟩ : ByteArray))))))))))))))))))))) = some r := h
  clear h
  by_cases c2 : a0.toList = ([83, 85, 78] : List UInt8)
  · rw [if_pos c2] at H
    have c2b0 : (a0.toList == ([83, 85, 78] : List UInt8)) = true := beq_iff_eq.mpr c2
    have c2b1 : (a0.toList != ([83, 85, 78] : List UInt8)) = false := bne_eq_false_iff_eq.mpr c2
    clear c2
    obtain rfl := Option.some.inj H
    go_enter Tryz.func73, Tryz.ntmps73
    go_wp2
    go_ret
    exact ⟨by first | rfl | (simp; done) | (simp [*]; done), by repeat (first | exact Drawn0.refl _ | apply Drawn0.step)⟩
  · rw [if_neg c2] at H
    have c2b0 : (a0.toList == ([83, 85, 78] : List UInt8)) = false := beq_eq_false_iff_ne.mpr c2
    have c2b1 : (a0.toList != ([83, 85, 78] : List UInt8)) = true := bne_iff_ne.mpr c2
    by_cases c3 : a0.toList = ([77, 79, 78] : List UInt8)
    · rw [if_pos c3] at H
      have c3b0 : (a0.toList == ([77, 79, 78] : List UInt8)) = true := beq_iff_eq.mpr c3
      have c3b1 : (a0.toList != ([77, 79, 78] : List UInt8)) = false := bne_eq_false_iff_eq.mpr c3
      clear c3
      obtain rfl := Option.some.inj H
      go_enter Tryz.func73, Tryz.ntmps73
      go_wp2
      go_ret
      exact ⟨by first | rfl | (simp; done) | (simp [*]; done), by repeat (first | exact Drawn0.refl _ | apply Drawn0.step)⟩
    · rw [if_neg c3] at H
      have c3b0 : (a0.toList == ([77, 79, 78] : List UInt8)) = false := beq_eq_false_iff_ne.mpr c3
      have c3b1 : (a0.toList != ([77, 79, 78] : List UInt8)) = true := bne_iff_ne.mpr c3
      by_cases c4 : a0.toList = ([84, 85, 69] : List UInt8)
      · rw [if_pos c4] at H
        have c4b0 : (a0.toList == ([84, 85, 69] : List UInt8)) = true := beq_iff_eq.mpr c4
        have c4b1 : (a0.toList != ([84, 85, 69] : List UInt8)) = false := bne_eq_false_iff_eq.mpr c4
        clear c4
        obtain rfl := Option.some.inj H
        go_enter Tryz.func73, Tryz.ntmps73
        go_wp2
        go_ret
        exact ⟨by first | rfl | (simp; done) | (simp [*]; done), by repeat (first | exact Drawn0.refl _ | apply Drawn0.step)⟩
      · rw [if_neg c4] at H
        have c4b0 : (a0.toList == ([84, 85, 69] : List UInt8)) = false := beq_eq_false_iff_ne.mpr c4
        have c4b1 : (a0.toList != ([84, 85, 69] : List UInt8)) = true := bne_iff_ne.mpr c4
        by_cases c5 : a0.toList = ([87, 69, 68] : List UInt8)
        · rw [if_pos c5] at H
          have c5b0 : (a0.toList == ([87, 69, 68] : List UInt8)) = true := beq_iff_eq.mpr c5
          have c5b1 : (a0.toList != ([87, 69, 68] : List UInt8)) = false := bne_eq_false_iff_eq.mpr c5
          clear c5
          obtain rfl := Option.some.inj H
          go_enter Tryz.func73, Tryz.ntmps73
          go_wp2
          go_ret
          exact ⟨by first | rfl | (simp; done) | (simp [*]; done), by repeat (first | exact Drawn0.refl _ | apply Drawn0.step)⟩
        · rw [if_neg c5] at H
          have c5b0 : (a0.toList == ([87, 69, 68] : List UInt8)) = false := beq_eq_false_iff_ne.mpr c5
          have c5b1 : (a0.toList != ([87, 69, 68] : List UInt8)) = true := bne_iff_ne.mpr c5
          by_cases c6 : a0.toList = ([84, 72, 85] : List UInt8)
          · rw [if_pos c6] at H
            have c6b0 : (a0.toList == ([84, 72, 85] : List UInt8)) = true := beq_iff_eq.mpr c6
            have c6b1 : (a0.toList != ([84, 72, 85] : List UInt8)) = false := bne_eq_false_iff_eq.mpr c6
            clear c6
            obtain rfl := Option.some.inj H
            go_enter Tryz.func73, Tryz.ntmps73
            go_wp2
            go_ret
            exact ⟨by first | rfl | (simp; done) | (simp [*]; done), by repeat (first | exact Drawn0.refl _ | apply Drawn0.step)⟩
          · rw [if_neg c6] at H
            have c6b0 : (a0.toList == ([84, 72, 85] : List UInt8)) = false := beq_eq_false_iff_ne.mpr c6
            have c6b1 : (a0.toList != ([84, 72, 85] : List UInt8)) = true := bne_iff_ne.mpr c6
            by_cases c7 : a0.toList = ([70, 82, 73] : List UInt8)
            · rw [if_pos c7] at H
              have c7b0 : (a0.toList == ([70, 82, 73] : List UInt8)) = true := beq_iff_eq.mpr c7
              have c7b1 : (a0.toList != ([70, 82, 73] : List UInt8)) = false := bne_eq_false_iff_eq.mpr c7
              clear c7
              obtain rfl := Option.some.inj H
              go_enter Tryz.func73, Tryz.ntmps73
              go_wp2
              go_ret
              exact ⟨by first | rfl | (simp; done) | (simp [*]; done), by repeat (first | exact Drawn0.refl _ | apply Drawn0.step)⟩
            · rw [if_neg c7] at H
              have c7b0 : (a0.toList == ([70, 82, 73] : List UInt8)) = false := beq_eq_false_iff_ne.mpr c7
              have c7b1 : (a0.toList != ([70, 82, 73] : List UInt8)) = true := bne_iff_ne.mpr c7
              by_cases c8 : a0.toList = ([83, 65, 84] : List UInt8)
              · rw [if_pos c8] at H
                have c8b0 : (a0.toList == ([83, 65, 84] : List UInt8)) = true := beq_iff_eq.mpr c8
                have c8b1 : (a0.toList != ([83, 65, 84] : List UInt8)) = false := bne_eq_false_iff_eq.mpr c8
                clear c8
                obtain rfl := Option.some.inj H
                go_enter Tryz.func73, Tryz.ntmps73
                go_wp2
                go_ret
                exact ⟨by first | rfl | (simp; done) | (simp [*]; done), by repeat (first | exact Drawn0.refl _ | apply Drawn0.step)⟩
              · rw [if_neg c8] at H
                have c8b0 : (a0.toList == ([83, 65, 84] : List UInt8)) = false := beq_eq_false_iff_ne.mpr c8
                have c8b1 : (a0.toList != ([83, 65, 84] : List UInt8)) = true := bne_iff_ne.mpr c8
                by_cases c9 : a0.toList = ([74, 65, 78] : List UInt8)
                · rw [if_pos c9] at H
                  have c9b0 : (a0.toList == ([74, 65, 78] : List UInt8)) = true := beq_iff_eq.mpr c9
                  have c9b1 : (a0.toList != ([74, 65, 78] : List UInt8)) = false := bne_eq_false_iff_eq.mpr c9
                  clear c9
                  obtain rfl := Option.some.inj H
                  go_enter Tryz.func73, Tryz.ntmps73
                  go_wp2
                  go_ret
                  exact ⟨by first | rfl | (simp; done) | (simp [*]; done), by repeat (first | exact Drawn0.refl _ | apply Drawn0.step)⟩
                · rw [if_neg c9] at H
                  have c9b0 : (a0.toList == ([74, 65, 78] : List UInt8)) = false := beq_eq_false_iff_ne.mpr c9
                  have c9b1 : (a0.toList != ([74, 65, 78] : List UInt8)) = true := bne_iff_ne.mpr c9
                  by_cases c10 : a0.toList = ([70, 69, 66] : List UInt8)
                  · rw [if_pos c10] at H
                    have c10b0 : (a0.toList == ([70, 69, 66] : List UInt8)) = true := beq_iff_eq.mpr c10
                    have c10b1 : (a0.toList != ([70, 69, 66] : List UInt8)) = false := bne_eq_false_iff_eq.mpr c10
                    clear c10
                    obtain rfl := Option.some.inj H
                    go_enter Tryz.func73, Tryz.ntmps73
                    go_wp2
                    go_ret
                    exact ⟨by first | rfl | (simp; done) | (simp [*]; done), by repeat (first | exact Drawn0.refl _ | apply Drawn0.step)⟩
                  · rw [if_neg c10] at H
                    have c10b0 : (a0.toList == ([70, 69, 66] : List UInt8)) = false := beq_eq_false_iff_ne.mpr c10
                    have c10b1 : (a0.toList != ([70, 69, 66] : List UInt8)) = true := bne_iff_ne.mpr c10
                    by_cases c11 : a0.toList = ([77, 65, 82] : List UInt8)
                    · rw [if_pos c11] at H
                      have c11b0 : (a0.toList == ([77, 65, 82] : List UInt8)) = true := beq_iff_eq.mpr c11
                      have c11b1 : (a0.toList != ([77, 65, 82] : List UInt8)) = false := bne_eq_false_iff_eq.mpr c11
                      clear c11
                      obtain rfl := Option.some.inj H
                      go_enter Tryz.func73, Tryz.ntmps73
                      go_wp2
                      go_ret
                      exact ⟨by first | rfl | (simp; done) | (simp [*]; done), by repeat (first | exact Drawn0.refl _ | apply Drawn0.step)⟩
                    · rw [if_neg c11] at H
                      have c11b0 : (a0.toList == ([77, 65, 82] : List UInt8)) = false := beq_eq_false_iff_ne.mpr c11
                      have c11b1 : (a0.toList != ([77, 65, 82] : List UInt8)) = true := bne_iff_ne.mpr c11
                      by_cases c12 : a0.toList = ([65, 80, 82] : List UInt8)
                      · rw [if_pos c12] at H
                        have c12b0 : (a0.toList == ([65, 80, 82] : List UInt8)) = true := beq_iff_eq.mpr c12
                        have c12b1 : (a0.toList != ([65, 80, 82] : List UInt8)) = false := bne_eq_false_iff_eq.mpr c12
                        clear c12
                        obtain rfl := Option.some.inj H
                        go_enter Tryz.func73, Tryz.ntmps73
                        go_wp2
                        go_ret
                        exact ⟨by first | rfl | (simp; done) | (simp [*]; done), by repeat (first | exact Drawn0.refl _ | apply Drawn0.step)⟩
                      · rw [if_neg c12] at H
                        have c12b0 : (a0.toList == ([65, 80, 82] : List UInt8)) = false := beq_eq_false_iff_ne.mpr c12
                        have c12b1 : (a0.toList != ([65, 80, 82] : List UInt8)) = true := bne_iff_ne.mpr c12
                        by_cases c13 : a0.toList = ([77, 65, 89] : List UInt8)
                        · rw [if_pos c13] at H
                          have c13b0 : (a0.toList == ([77, 65, 89] : List UInt8)) = true := beq_iff_eq.mpr c13
                          have c13b1 : (a0.toList != ([77, 65, 89] : List UInt8)) = false := bne_eq_false_iff_eq.mpr c13
                          clear c13
                          obtain rfl := Option.some.inj H
                          go_enter Tryz.func73, Tryz.ntmps73
                          go_wp2
                          go_ret
                          exact ⟨by first | rfl | (simp; done) | (simp [*]; done), by repeat (first | exact Drawn0.refl _ | apply Drawn0.step)⟩
                        · rw [if_neg c13] at H
                          have c13b0 : (a0.toList == ([77, 65, 89] : List UInt8)) = false := beq_eq_false_iff_ne.mpr c13
                          have c13b1 : (a0.toList != ([77, 65, 89] : List UInt8)) = true := bne_iff_ne.mpr c13
                          by_cases c14 : a0.toList = ([74, 85, 78] : List UInt8)
                          · rw [if_pos c14] at H
                            have c14b0 : (a0.toList == ([74, 85, 78] : List UInt8)) = true := beq_iff_eq.mpr c14
                            have c14b1 : (a0.toList != ([74, 85, 78] : List UInt8)) = false := bne_eq_false_iff_eq.mpr c14
                            clear c14
                            obtain rfl := Option.some.inj H
                            go_enter Tryz.func73, Tryz.ntmps73
                            go_wp2
                            go_ret
                            exact ⟨by first | rfl | (simp; done) | (simp [*]; done), by repeat (first | exact Drawn0.refl _ | apply Drawn0.step)⟩
                          · rw [if_neg c14] at H
                            have c14b0 : (a0.toList == ([74, 85, 78] : List UInt8)) = false := beq_eq_false_iff_ne.mpr c14
                            have c14b1 : (a0.toList != ([74, 85, 78] : List UInt8)) = true := bne_iff_ne.mpr c14
                            by_cases c15 : a0.toList = ([74, 85, 76] : List UInt8)
                            · rw [if_pos c15] at H
                              have c15b0 : (a0.toList == ([74, 85, 76] : List UInt8)) = true := beq_iff_eq.mpr c15
                              have c15b1 : (a0.toList != ([74, 85, 76] : List UInt8)) = false := bne_eq_false_iff_eq.mpr c15
                              clear c15
                              obtain rfl := Option.some.inj H
                              go_enter Tryz.func73, Tryz.ntmps73
                              go_wp2
                              go_ret
                              exact ⟨by first | rfl | (simp; done) | (simp [*]; done), by repeat (first | exact Drawn0.refl _ | apply Drawn0.step)⟩
                            · rw [if_neg c15] at H
                              have c15b0 : (a0.toList == ([74, 85, 76] : List UInt8)) = false := beq_eq_false_iff_ne.mpr c15
                              have c15b1 : (a0.toList != ([74, 85, 76] : List UInt8)) = true := bne_iff_ne.mpr c15
                              by_cases c16 : a0.toList = ([65, 85, 71] : List UInt8)
                              · rw [if_pos c16] at H
                                have c16b0 : (a0.toList == ([65, 85, 71] : List UInt8)) = true := beq_iff_eq.mpr c16
                                have c16b1 : (a0.toList != ([65, 85, 71] : List UInt8)) = false := bne_eq_false_iff_eq.mpr c16
                                clear c16
                                obtain rfl := Option.some.inj H
                                go_enter Tryz.func73, Tryz.ntmps73
                                go_wp2
                                go_ret
                                exact ⟨by first | rfl | (simp; done) | (simp [*]; done), by repeat (first | exact Drawn0.refl _ | apply Drawn0.step)⟩
                              · rw [if_neg c16] at H
                                have c16b0 : (a0.toList == ([65, 85, 71] : List UInt8)) = false := beq_eq_false_iff_ne.mpr c16
                                have c16b1 : (a0.toList != ([65, 85, 71] : List UInt8)) = true := bne_iff_ne.mpr c16
                                by_cases c17 : a0.toList = ([83, 69, 80] : List UInt8)
                                · rw [if_pos c17] at H
                                  have c17b0 : (a0.toList == ([83, 69, 80] : List UInt8)) = true := beq_iff_eq.mpr c17
                                  have c17b1 : (a0.toList != ([83, 69, 80] : List UInt8)) = false := bne_eq_false_iff_eq.mpr c17
                                  clear c17
                                  obtain rfl := Option.some.inj H
                                  go_enter Tryz.func73, Tryz.ntmps73
                                  go_wp2
                                  go_ret
                                  exact ⟨by first | rfl | (simp; done) | (simp [*]; done), by repeat (first | exact Drawn0.refl _ | apply Drawn0.step)⟩
                                · rw [if_neg c17] at H
                                  have c17b0 : (a0.toList == ([83, 69, 80] : List UInt8)) = false := beq_eq_false_iff_ne.mpr c17
                                  have c17b1 : (a0.toList != ([83, 69, 80] : List UInt8)) = true := bne_iff_ne.mpr c17
                                  by_cases c18 : a0.toList = ([79, 67, 84] : List UInt8)
                                  · rw [if_pos c18] at H
                                    have c18b0 : (a0.toList == ([79, 67, 84] : List UInt8)) = true := beq_iff_eq.mpr c18
                                    have c18b1 : (a0.toList != ([79, 67, 84] : List UInt8)) = false := bne_eq_false_iff_eq.mpr c18
                                    clear c18
                                    obtain rfl := Option.some.inj H
                                    go_enter Tryz.func73, Tryz.ntmps73
                                    go_wp2
                                    go_ret
                                    exact ⟨by first | rfl | (simp; done) | (simp [*]; done), by repeat (first | exact Drawn0.refl _ | apply Drawn0.step)⟩
                                  · rw [if_neg c18] at H
                                    have c18b0 : (a0.toList == ([79, 67, 84] : List UInt8)) = false := beq_eq_false_iff_ne.mpr c18
                                    have c18b1 : (a0.toList != ([79, 67, 84] : List UInt8)) = true := bne_iff_ne.mpr c18
                                    by_cases c19 : a0.toList = ([78, 79, 86] : List UInt8)
                                    · rw [if_pos c19] at H
                                      have c19b0 : (a0.toList == ([78, 79, 86] : List UInt8)) = true := beq_iff_eq.mpr c19
                                      have c19b1 : (a0.toList != ([78, 79, 86] : List UInt8)) = false := bne_eq_false_iff_eq.mpr c19
                                      clear c19
                                      obtain rfl := Option.some.inj H
                                      go_enter Tryz.func73, Tryz.ntmps73
                                      go_wp2
                                      go_ret
                                      exact ⟨by first | rfl | (simp; done) | (simp [*]; done), by repeat (first | exact Drawn0.refl _ | apply Drawn0.step)⟩
                                    · rw [if_neg c19] at H
                                      have c19b0 : (a0.toList == ([78, 79, 86] : List UInt8)) = false := beq_eq_false_iff_ne.mpr c19
                                      have c19b1 : (a0.toList != ([78, 79, 86] : List UInt8)) = true := bne_iff_ne.mpr c19
                                      by_cases c20 : a0.toList = ([68, 69, 67] : List UInt8)
                                      · rw [if_pos c20] at H
                                        have c20b0 : (a0.toList == ([68, 69, 67] : List UInt8)) = true := beq_iff_eq.mpr c20
                                        have c20b1 : (a0.toList != ([68, 69, 67] : List UInt8)) = false := bne_eq_false_iff_eq.mpr c20
                                        clear c20
                                        obtain rfl := Option.some.inj H
                                        go_enter Tryz.func73, Tryz.ntmps73
                                        go_wp2
                                        go_ret
                                        exact ⟨by first | rfl | (simp; done) | (simp [*]; done), by repeat (first | exact Drawn0.refl _ | apply Drawn0.step)⟩
                                      · rw [if_neg c20] at H
                                        have c20b0 : (a0.toList == ([68, 69, 67] : List UInt8)) = false := beq_eq_false_iff_ne.mpr c20
                                        have c20b1 : (a0.toList != ([68, 69, 67] : List UInt8)) = true := bne_iff_ne.mpr c20
                                        obtain rfl := Option.some.inj H
                                        go_enter Tryz.func73, Tryz.ntmps73
                                        go_wp2
                                        go_ret
                                        exact ⟨by first | rfl | (simp; done) | (simp [*]; done), by repeat (first | exact Drawn0.refl _ | apply Drawn0.step)⟩
end Go.Proofs.YtemgofomhjabpaaGreatDoor.Core
