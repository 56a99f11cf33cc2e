/- Contracts and plain lemmas of this seat (part 2), merged by wip/merge2.py; what is proved stands in the claim's last text. -/
import Derived.Test.YtkhgeonlohafgaaGreatDoorCMon1
import Derived.Test.YtkhgeonlohafgaaGreatDoorProg
import Derived.Below
import Derived.Deep.Draws
import Derived.Deep.AppendLies
import Derived.Maps.AppendAt
import Derived.OwnWalk
import Derived.Laws.BytesArg
import Derived.Laws.MakeOwn
import Derived.Laws.OwnMore
import Derived.Deep.OwnRows
import Derived.Tactics
import Derived.Lib.ConvBytes
import Derived.Laws.Slices
import Derived.WalkKit
import Derived.KernelRfl
import Derived.RowKit3
import Derived.Deep.LoopGhost
import Derived.Deep.QuietTactic
import Derived.BigQuiet
import Derived.WideLaws
import Derived.Deep.DeepCutAuto
import Derived.Deep.CutBlock
import Derived.Deep.RegionHeld3
import Derived.Laws.Rows
import Derived.Lib.AppendStr
import Derived.ArgAppend
import Derived.Laws.IdiomCopy
import Derived.OrdersHeld
import Derived.Laws.BitsLemmas
import Derived.RowKit
import Derived.ChangeKeysEq
import Derived.Barred
namespace Go.Proofs.YtkhgeonlohafgaaGreatDoor.Core
open Go.RowKit Go.Proofs.YtkhgeonlohafgaaGreatDoorW.PrintWords Go.Proofs.YtkhgeonlohafgaaGreatDoorW.PrintLast Go.Proofs.YtkhgeonlohafgaaGreatDoorW.PrintMore
attribute [local go_sem] max2_int min2_int max_two min_two max_three min_three max_four min_four   -- for this text's walks alone
set_option linter.unusedVariables false
set_option linter.unusedSimpArgs false
def errW : Option Int → Value
  | none => .nilIface
  | some c => .iface 0 (.int .i64 c)
theorem errW_none : errW none = .nilIface := rfl
theorem errW_some (c : Int) : errW (some c) = .iface 0 (.int .i64 c) := rfl
theorem info5 : (Tryz.prog.info? 5).map (fun i => (i.zero, i.size, i.bytes)) = some (some (.int .u8 0), 1, 1) := by kernel_rfl
theorem info9 : (Tryz.prog.info? 9).map (fun i => (i.zero, i.size, i.bytes)) = some (some (.string ⟨#[]⟩), 1, 16) := by kernel_rfl
structure S25 where
  f0 : Int
  f1 : Int
  f2 : Int
  f3 : Int
  f4 : Int
  f5 : Int
structure S23 where
  f0 : Int
  f1 : Int
  f2 : Int
  f3 : Int
  f4 : Int
  f5 : Int
structure S67 where
  f0 : Bool
  f1 : Int
  f2 : Int
  f3 : Int
structure S57 where
  f0 : Bool
  f1 : Int
  f2 : Int
  f3 : Int
def errors_New.f (_a0 : ByteArray) : Option (Option Int) := none
theorem errors_New.calls (a0 : ByteArray) (r : Option Int) (w : World) (h : errors_New.f a0 = some r) :
    Calls Tryz.prog 51 #[.string a0] w fun e w' => e = .returned (errW r) ∧ Below w.heap.size w w' := by cases h
theorem index_arr {P : Program} (t e : TypeId) (n : Nat) (k : IntKind) (l : List Int) (j : Int) (h : P.underlying t = some (.array n e)) (he : P.plainKey e = true) (hz : ∀ w, (sizeOf e).run P w = .ok 1 w) (hl : l.length = n) (h0 : 0 ≤ j) (h1 : j < n) (w : World) :
    (Instr.index t (.agg (l.map fun x => Value.int k x).toArray) (.int .i64 j)).run P w = .ok (.int k (rd l j)) w := by
  have hx : ((l.map fun x => Value.int k x).toArray)[j.toNat * 1]? = some (.int k (rd l j)) := by
    have : j.toNat < l.length := by omega
    simp [rd, this]
  have hp := run_part_plain (w := w) he hx
  have e1 : (Instr.index t (.agg (l.map fun x => Value.int k x).toArray) (.int .i64 j)).run P w = (part e (l.map fun x => Value.int k x).toArray (j.toNat * 1)).run P w := by
    simp [Instr.index, run_underlying h, asIntOf, h0, h1, hz, go_sem]
  rw [e1]
  exact hp
theorem index_T82 (x0 x1 x2 x3 x4 x5 x6 x7 x8 x9 x10 x11 x12 j : Int) (h0 : 0 ≤ j) (h1 : j < 13) (w : World) : (Instr.index 82 (.agg #[.int .i64 x0, .int .i64 x1, .int .i64 x2, .int .i64 x3, .int .i64 x4, .int .i64 x5, .int .i64 x6, .int .i64 x7, .int .i64 x8, .int .i64 x9, .int .i64 x10, .int .i64 x11, .int .i64 x12]) (.int .i64 j)).run Tryz.prog w = .ok (.int .i64 (rd [x0, x1, x2, x3, x4, x5, x6, x7, x8, x9, x10, x11, x12] j)) w :=
  index_arr 82 3 13 .i64 [x0, x1, x2, x3, x4, x5, x6, x7, x8, x9, x10, x11, x12] j Tryz.underlying82 (by kernel_rfl) (fun w => by simp [Tryz.sizeOf3]) rfl h0 h1 w
end Go.Proofs.YtkhgeonlohafgaaGreatDoor.Core
namespace Go.Proofs.YtkhgeonlohafgaaGreatDoor.Core
open Go.RowKit Go.Proofs.YtkhgeonlohafgaaGreatDoorW.PrintWords Go.Proofs.YtkhgeonlohafgaaGreatDoorW.PrintLast Go.Proofs.YtkhgeonlohafgaaGreatDoorW.PrintMore
attribute [local go_sem] max2_int min2_int max_two min_two max_three min_three max_four min_four   -- for this text's walks alone
set_option linter.unusedVariables false
set_option linter.unusedSimpArgs false
def laws_moment.f (a0_0 : Int) (a0_1 : Int) (a0_2 : Int) (a0_3 : Int) (a0_4 : Int) (a0_5 : Int) : Option (Int × Int × Int × Int × Int × Int) := some (a0_0, a0_1, a0_2, a0_3, a0_4, a0_5)
set_option maxHeartbeats 8000000 in
set_option maxRecDepth 100000 in
theorem laws_moment.calls (a0_0 : Int) (a0_1 : Int) (a0_2 : Int) (a0_3 : Int) (a0_4 : Int) (a0_5 : Int) (r1 : Int) (r2 : Int) (r3 : Int) (r4 : Int) (r5 : Int) (r6 : Int) (w : World) (h : laws_moment.f a0_0 a0_1 a0_2 a0_3 a0_4 a0_5 = some (r1, r2, r3, r4, r5, r6)) :
    Calls Tryz.prog 13 #[.agg #[.int .i64 a0_0, .int .i64 a0_1, .int .i64 a0_2, .int .i64 a0_3, .int .i64 a0_4, .int .i64 a0_5]] w fun e w' => e = .returned (.agg #[.int .i64 r1, .int .i64 r2, .int .i64 r3, .int .i64 r4, .int .i64 r5, .int .i64 r6]) ∧ Below w.heap.size w w' := by
  have hu23 := Tryz.underlying23
  have hu25 := Tryz.underlying25
  have HB := Aside0.mk (Below.refl w.heap.size w)
  have H : (some (a0_0, a0_1, a0_2, a0_3, a0_4, a0_5)) = some (r1, r2, r3, r4, r5, r6) := h
  clear h
  simp only [Option.some.injEq, Prod.mk.injEq] at H
  obtain ⟨rfl, rfl, rfl, rfl, rfl, rfl⟩ := H
  go_enter Tryz.func13, Tryz.ntmps13
  go_wp2_with (first | ((with_reducible refine gate_dst (N := 1) rfl ?_); refine box_event ?hg (N := 1) ?hd (cs := #[.int .i64 a0_0, .int .i64 a0_1, .int .i64 a0_2, .int .i64 a0_3, .int .i64 a0_4, .int .i64 a0_5]) (t := 23) ?hr ?_; (case hd => rfl); (case hg => rfl); (case hr => first | (go_simp; done) | (go_simp; rfl)); intro gb101 hg w2 hbox hb; have n0_ := Aside0.mk (below_step (by repeat (first | (with_reducible first | exact HB.out | apply below_alloc | apply pw_below_drewN | apply below_drew1) | exact HB.out)) hb); have n1_ := Aside0.mk (hbox); have n2_ := Aside0.mk ((by rw [hg]; exact (below_size (by repeat (first | (with_reducible first | exact HB.out | apply below_alloc | apply pw_below_drewN | apply below_drew1) | exact HB.out))) : w.heap.size ≤ gb101)); have n3_ := Aside0.mk ((by rw [hg]; exact (below_size (by repeat (first | (with_reducible first | exact HB.out | apply below_alloc | apply pw_below_drewN | apply below_drew1) | exact HB.out))) : w.heap.size ≤ gb101)); clear HB; have HB := n0_; have BK101 := n1_; have GW101 := n2_; have GE101 := n3_; clear n0_ n1_ n2_ n3_; clear hb hbox hg) | ((with_reducible refine gate_dst (N := 2) rfl ?_); refine box_event ?hg (N := 2) ?hd (cs := #[.int .i64 0, .int .i64 0, .int .i64 0, .int .i64 0, .int .i64 0, .int .i64 0]) (t := 25) ?hr ?_; (case hd => rfl); (case hg => rfl); (case hr => first | (go_simp; done) | (go_simp; rfl)); intro gb102 hg w3 hbox hb; have n0_ := Aside0.mk (blk_below (g := gb101) (o := .cells #[.int .i64 a0_0, .int .i64 a0_1, .int .i64 a0_2, .int .i64 a0_3, .int .i64 a0_4, .int .i64 a0_5] 23 (0, 0)) (by (with_reducible repeat (first | refine blk_drewN ?_ _ | refine blk_drew ?_ | refine blk_alloc ?_ _)); exact BK101.out) hb); have n1_ := Aside0.mk (below_step (by repeat (first | (with_reducible first | exact HB.out | apply below_alloc | apply pw_below_drewN | apply below_drew1 | refine below_set ?_ GE101.out) | exact HB.out)) hb); have n2_ := Aside0.mk (hbox); have n3_ := Aside0.mk ((by rw [hg]; exact (below_size (by repeat (first | (with_reducible first | exact HB.out | apply below_alloc | apply pw_below_drewN | apply below_drew1 | refine below_set ?_ GE101.out) | exact HB.out))) : w.heap.size ≤ gb102)); have n4_ := Aside0.mk ((by rw [hg]; exact (below_size (by repeat (first | (with_reducible first | exact HB.out | apply below_alloc | apply pw_below_drewN | apply below_drew1 | refine below_set ?_ GE101.out) | exact HB.out))) : w.heap.size ≤ gb102)); have n5_ := Aside0.mk ((by rw [hg]; exact Nat.ne_of_lt (blk_lt (g := gb101) (o := .cells #[.int .i64 a0_0, .int .i64 a0_1, .int .i64 a0_2, .int .i64 a0_3, .int .i64 a0_4, .int .i64 a0_5] 23 (0, 0)) (by (with_reducible repeat (first | refine blk_drewN ?_ _ | refine blk_drew ?_ | refine blk_alloc ?_ _)); exact BK101.out)) : gb101 ≠ gb102)); have n6_ := Aside0.mk ((by rw [hg]; exact Nat.ne_of_gt (blk_lt (g := gb101) (o := .cells #[.int .i64 a0_0, .int .i64 a0_1, .int .i64 a0_2, .int .i64 a0_3, .int .i64 a0_4, .int .i64 a0_5] 23 (0, 0)) (by (with_reducible repeat (first | refine blk_drewN ?_ _ | refine blk_drew ?_ | refine blk_alloc ?_ _)); exact BK101.out)) : gb102 ≠ gb101)); clear BK101; clear HB; have BK101 := n0_; have HB := n1_; have BK102 := n2_; have GW102 := n3_; have GE102 := n4_; have NB101_102 := n5_; have NB102_101 := n6_; clear n0_ n1_ n2_ n3_ n4_ n5_ n6_; clear hb hbox hg; have hnb4 := NB101_102.out; have hnc4 := NB102_101.out; have hcz5_0 : w3.cell? ⟨gb101, 0, none⟩ = some (.int .i64 a0_0) := (blk_cell BK101.out 0).trans rfl; have hcz5_1 : w3.cell? ⟨gb101, 1, none⟩ = some (.int .i64 a0_1) := (blk_cell BK101.out 1).trans rfl; have hcz5_2 : w3.cell? ⟨gb101, 2, none⟩ = some (.int .i64 a0_2) := (blk_cell BK101.out 2).trans rfl; have hcz5_3 : w3.cell? ⟨gb101, 3, none⟩ = some (.int .i64 a0_3) := (blk_cell BK101.out 3).trans rfl; have hcz5_4 : w3.cell? ⟨gb101, 4, none⟩ = some (.int .i64 a0_4) := (blk_cell BK101.out 4).trans rfl; have hcz5_5 : w3.cell? ⟨gb101, 5, none⟩ = some (.int .i64 a0_5) := (blk_cell BK101.out 5).trans rfl; have hfz5_0 := blk_frozen BK101.out 0; have hfz5_1 := blk_frozen BK101.out 1; have hfz5_2 := blk_frozen BK101.out 2; have hfz5_3 := blk_frozen BK101.out 3; have hfz5_4 := blk_frozen BK101.out 4; have hfz5_5 := blk_frozen BK101.out 5; have hcz6_0 : w3.cell? ⟨gb102, 0, none⟩ = some (.int .i64 0) := (blk_cell BK102.out 0).trans rfl; have hcz6_1 : w3.cell? ⟨gb102, 1, none⟩ = some (.int .i64 0) := (blk_cell BK102.out 1).trans rfl; have hcz6_2 : w3.cell? ⟨gb102, 2, none⟩ = some (.int .i64 0) := (blk_cell BK102.out 2).trans rfl; have hcz6_3 : w3.cell? ⟨gb102, 3, none⟩ = some (.int .i64 0) := (blk_cell BK102.out 3).trans rfl; have hcz6_4 : w3.cell? ⟨gb102, 4, none⟩ = some (.int .i64 0) := (blk_cell BK102.out 4).trans rfl; have hcz6_5 : w3.cell? ⟨gb102, 5, none⟩ = some (.int .i64 0) := (blk_cell BK102.out 5).trans rfl; have hfz6_0 := blk_frozen BK102.out 0; have hfz6_1 := blk_frozen BK102.out 1; have hfz6_2 := blk_frozen BK102.out 2; have hfz6_3 := blk_frozen BK102.out 3; have hfz6_4 := blk_frozen BK102.out 4; have hfz6_5 := blk_frozen BK102.out 5))
  refine bodyPost_ret (results_cell_row rfl _ _ gb102 25 #[.int .i64 a0_0, .int .i64 a0_1, .int .i64 a0_2, .int .i64 a0_3, .int .i64 a0_4, .int .i64 a0_5] (0, 0) _ rfl (by (with_reducible repeat (first | refine blk_drewN ?_ _ | refine blk_drew ?_ | refine blk_alloc ?_ _)); refine blk_put (cs := #[.int .i64 a0_0, .int .i64 a0_1, .int .i64 a0_2, .int .i64 a0_3, .int .i64 a0_4, .int .i64 0]) ?_ 5 _ rfl; (with_reducible repeat (first | refine blk_drewN ?_ _ | refine blk_drew ?_ | refine blk_alloc ?_ _)); refine blk_put (cs := #[.int .i64 a0_0, .int .i64 a0_1, .int .i64 a0_2, .int .i64 a0_3, .int .i64 0, .int .i64 0]) ?_ 4 _ rfl; (with_reducible repeat (first | refine blk_drewN ?_ _ | refine blk_drew ?_ | refine blk_alloc ?_ _)); refine blk_put (cs := #[.int .i64 a0_0, .int .i64 a0_1, .int .i64 a0_2, .int .i64 0, .int .i64 0, .int .i64 0]) ?_ 3 _ rfl; (with_reducible repeat (first | refine blk_drewN ?_ _ | refine blk_drew ?_ | refine blk_alloc ?_ _)); refine blk_put (cs := #[.int .i64 a0_0, .int .i64 a0_1, .int .i64 0, .int .i64 0, .int .i64 0, .int .i64 0]) ?_ 2 _ rfl; (with_reducible repeat (first | refine blk_drewN ?_ _ | refine blk_drew ?_ | refine blk_alloc ?_ _)); refine blk_put (cs := #[.int .i64 a0_0, .int .i64 0, .int .i64 0, .int .i64 0, .int .i64 0, .int .i64 0]) ?_ 1 _ rfl; (with_reducible repeat (first | refine blk_drewN ?_ _ | refine blk_drew ?_ | refine blk_alloc ?_ _)); refine blk_put (cs := #[.int .i64 0, .int .i64 0, .int .i64 0, .int .i64 0, .int .i64 0, .int .i64 0]) ?_ 0 _ rfl; (with_reducible repeat (first | refine blk_drewN ?_ _ | refine blk_drew ?_ | refine blk_alloc ?_ _)); exact BK102.out) Tryz.underlying25 rfl (by kernel_rfl)) rfl ?_
  exact ⟨by first | rfl | (simp [errW_none, errW_some] <;> rfl) | (simp [*, errW_none, errW_some] <;> rfl), by repeat (first | (with_reducible first | exact HB.out | apply below_alloc | apply pw_below_drewN | apply below_drew1 | refine below_set ?_ GE101.out | refine below_set ?_ GE102.out) | exact HB.out)⟩
end Go.Proofs.YtkhgeonlohafgaaGreatDoor.Core
namespace Go.Proofs.YtkhgeonlohafgaaGreatDoor.Core
open Go.RowKit Go.Proofs.YtkhgeonlohafgaaGreatDoorW.PrintWords Go.Proofs.YtkhgeonlohafgaaGreatDoorW.PrintLast Go.Proofs.YtkhgeonlohafgaaGreatDoorW.PrintMore
attribute [local go_sem] max2_int min2_int max_two min_two max_three min_three max_four min_four   -- for this text's walks alone
set_option linter.unusedVariables false
set_option linter.unusedSimpArgs false
mutual
def laws_stars.l0 : Nat → Int → ByteArray → ByteArray → Int → Option (ByteArray)
  | 0, _, _, _, _ => none
  | k + 1, x0, x1, x5, x6 => if x6 ≤ 5 then (if x6 < x0 then (laws_stars.j1 k x0 x1 x5 x6 (⟨#[42]⟩ : ByteArray) (decide (x6 ≤ 2))) else (laws_stars.j1 k x0 x1 x5 x6 (⟨#[42]⟩ : ByteArray) false)) else (some x5)
def laws_stars.j1 : Nat → Int → ByteArray → ByteArray → Int → ByteArray → Bool → Option (ByteArray)
  | 0, _, _, _, _, _, _ => none
  | k + 1, x0, x1, x5, x6, x7, x18 => if x18 = true then (laws_stars.j2 k x0 x1 x5 x6 (⟨#[48]⟩ : ByteArray)) else (laws_stars.j2 k x0 x1 x5 x6 x7)
def laws_stars.j2 : Nat → Int → ByteArray → ByteArray → Int → ByteArray → Option (ByteArray)
  | 0, _, _, _, _, _ => none
  | k + 1, x0, x1, x5, x6, x7 => if x6 = x0 then (if x6 > 1 then (if x5.size + 1 ≤ 9223372036854775807 then (if (x5 ++ (⟨#[32]⟩ : ByteArray)).size + x1.size ≤ 9223372036854775807 then (laws_stars.l0 k x0 x1 ((x5 ++ (⟨#[32]⟩ : ByteArray)) ++ x1) (wrap64 (x6 + 1))) else (none)) else (none)) else (if x5.size + x1.size ≤ 9223372036854775807 then (laws_stars.l0 k x0 x1 (x5 ++ x1) (wrap64 (x6 + 1))) else (none))) else (if x6 > 1 then (if x5.size + 1 ≤ 9223372036854775807 then (if (x5 ++ (⟨#[32]⟩ : ByteArray)).size + x7.size ≤ 9223372036854775807 then (laws_stars.l0 k x0 x1 ((x5 ++ (⟨#[32]⟩ : ByteArray)) ++ x7) (wrap64 (x6 + 1))) else (none)) else (none)) else (if x5.size + x7.size ≤ 9223372036854775807 then (laws_stars.l0 k x0 x1 (x5 ++ x7) (wrap64 (x6 + 1))) else (none)))
end
def laws_stars.f (k : Nat) (a0 : Int) (a1 : ByteArray) : Option (ByteArray) := laws_stars.l0 k a0 a1 (⟨#[]⟩ : ByteArray) 1
set_option maxHeartbeats 8000000 in
set_option maxRecDepth 100000 in
theorem laws_stars.calls (k : Nat) (a0 : Int) (a1 : ByteArray) (r : ByteArray) (w : World) (h : laws_stars.f k a0 a1 = some r) :
    Calls Tryz.prog 15 #[.int .i64 a0, .string a1] w fun e w' => e = .returned (.string r) ∧ Drawn0 w w' := by
  have H : (laws_stars.l0 k a0 a1 (⟨#[]⟩ : ByteArray) 1) = some r := h
  clear h
  have H' := Aside0.mk H
  clear H
  go_enter Tryz.func15, Tryz.ntmps15
  go_wp2
  go_loopg [5, 6] k (fun kq v5 v6 w' => ∃ (x5_1 : ByteArray) (x6_1 : Int), v5 = .string x5_1 ∧ v6 = .int .i64 x6_1 ∧ Aside0 (laws_stars.l0 kq a0 a1 x5_1 x6_1 = some r) ∧ Aside0 (kq ≤ k) ∧ Drawn0 w w')
  case atStart => exact ⟨((⟨#[]⟩ : ByteArray)), (1), (by first | rfl | (simp; done) | (simp [*]; done)), (by first | rfl | (simp; done) | (simp [*]; done)), H', ⟨Nat.le_refl _⟩, by repeat (first | exact Drawn0.refl _ | apply Drawn0.step)⟩
  case round =>
    clear H'
    try clear c1
    try clear p2
    obtain ⟨x5_1, x6_1, rfl, rfl, HA, HK1, ⟨m1, rfl⟩⟩ := hrel
    cases gk with
    | zero => exact absurd HA.out (by simp [laws_stars.l0])
    | succ k1 =>
      have H := HA.out
      clear HA
      simp only [laws_stars.l0] at H
      by_cases c3 : x6_1 ≤ 5
      · rw [if_pos c3] at H
        have c3b0 : decide (x6_1 ≤ 5) = true := decide_eq_true c3
        clear c3
        have HC4 := Aside0.mk H
        clear H
        go_upto_region 6 with (fail)
        go_cut [18] (fun v18 wc => ∃ (kq : Nat) (x18_3 : Bool), v18 = .bool x18_3 ∧ Aside0 (laws_stars.j1 kq a0 a1 x5_1 x6_1 (⟨#[42]⟩ : ByteArray) x18_3 = some r) ∧ Aside0 (kq ≤ k1) ∧ Drawn0 w wc)
        case first =>
          have H := HC4.out
          clear HC4
          by_cases c5 : x6_1 < a0
          · rw [if_pos c5] at H
            have c5b0 : decide (x6_1 < a0) = true := decide_eq_true c5
            clear c5
            (first | rw [c5b0] | (simp only [i64_w, i32_w]; rw [c5b0]) | skip)
            have H' := Aside0.mk H
            clear H
            go_wp2
            go_meet
            case rel => exact ⟨_, (decide (x6_1 ≤ 2)), (by first | rfl | (simp; done) | (simp [*]; done)), H', ⟨by have := HK1.out; first | omega | exact Nat.le_refl _⟩, by repeat (first | exact Drawn0.refl _ | apply Drawn0.step)⟩
          · rw [if_neg c5] at H
            have c5b0 : decide (x6_1 < a0) = false := decide_eq_false c5
            clear c5
            (first | rw [c5b0] | (simp only [i64_w, i32_w]; rw [c5b0]) | skip)
            have H' := Aside0.mk H
            clear H
            go_wp2
            go_meet
            case rel => exact ⟨_, (false), (by first | rfl | (simp; done) | (simp [*]; done)), H', ⟨by have := HK1.out; first | omega | exact Nat.le_refl _⟩, by repeat (first | exact Drawn0.refl _ | apply Drawn0.step)⟩
        case rest =>
          clear HC4
          try clear c1
          try clear p2
          try clear c3
          try clear c3b0
          try clear c5
          try clear c5b0
          try clear p2
          obtain ⟨kq, x18_3, rfl, HA, HJ3, ⟨mc3, rfl⟩⟩ := hcut
          cases kq with
          | zero => exact absurd HA.out (by simp [laws_stars.j1])
          | succ kj3 =>
            have H := HA.out
            clear HA
            simp only [laws_stars.j1] at H
            have HC6 := Aside0.mk H
            clear H
            go_upto_if 18 with (fail)
            go_cut [7] (fun v7 wc => ∃ (kq : Nat) (x7_5 : ByteArray), v7 = .string x7_5 ∧ Aside0 (laws_stars.j2 kq a0 a1 x5_1 x6_1 x7_5 = some r) ∧ Aside0 (kq ≤ kj3) ∧ Drawn0 w wc)
            case first =>
              have H := HC6.out
              clear HC6
              by_cases c7 : x18_3 = true
              · subst c7
                have H1 : (laws_stars.j2 kj3 a0 a1 x5_1 x6_1 (⟨#[48]⟩ : ByteArray)) = some r := by rw [if_pos rfl] at H; exact H
                clear H
                have H := H1
                clear H1
                have H' := Aside0.mk H
                clear H
                go_wp2
                go_meet
                case rel => exact ⟨_, ((⟨#[48]⟩ : ByteArray)), (by first | rfl | (simp; done) | (simp [*]; done)), H', ⟨by have := HK1.out; have := HJ3.out; first | omega | exact Nat.le_refl _⟩, by repeat (first | exact Drawn0.refl _ | apply Drawn0.step)⟩
              · replace c7 := Bool.eq_false_iff.mpr c7
                subst c7
                have H1 : (laws_stars.j2 kj3 a0 a1 x5_1 x6_1 (⟨#[42]⟩ : ByteArray)) = some r := by rw [if_neg (show ¬ (false = true) by decide)] at H; exact H
                clear H
                have H := H1
                clear H1
                have H' := Aside0.mk H
                clear H
                go_wp2
                go_meet
                case rel => exact ⟨_, ((⟨#[42]⟩ : ByteArray)), (by first | rfl | (simp; done) | (simp [*]; done)), H', ⟨by have := HK1.out; have := HJ3.out; first | omega | exact Nat.le_refl _⟩, by repeat (first | exact Drawn0.refl _ | apply Drawn0.step)⟩
            case rest =>
              clear HC6
              try clear c1
              try clear p2
              try clear c3
              try clear c3b0
              try clear c5
              try clear c5b0
              try clear c7
              try clear p2
              obtain ⟨kq, x7_5, rfl, HA, HJ5, ⟨mc5, rfl⟩⟩ := hcut
              cases kq with
              | zero => exact absurd HA.out (by simp [laws_stars.j2])
              | succ kj5 =>
                have H := HA.out
                clear HA
                simp only [laws_stars.j2] at H
                by_cases c8 : x6_1 = a0
                · rw [if_pos c8] at H
                  have c8b0 : (x6_1 == a0) = true := beq_iff_eq.mpr c8
                  have c8b1 : (x6_1 != a0) = false := bne_eq_false_iff_eq.mpr c8
                  clear c8
                  by_cases c9 : x6_1 > 1
                  · rw [if_pos c9] at H
                    have c9b0 : decide (1 < x6_1) = true := decide_eq_true c9
                    clear c9
                    by_cases c10 : x5_1.size + 1 ≤ 9223372036854775807
                    · rw [if_pos c10] at H
                      have c10b0 := eq_true c10
                      have c10b1 : decide (x5_1.size + 1 ≤ 9223372036854775807) = true := decide_eq_true c10
                      try have c10b2 : (9223372036854775807 < x5_1.size + 1) = False := eq_false (Nat.not_lt.2 c10)
                      by_cases c11 : (x5_1 ++ (⟨#[32]⟩ : ByteArray)).size + a1.size ≤ 9223372036854775807
                      · rw [if_pos c11] at H
                        have c11b0 := eq_true c11
                        have c11b1 : decide ((x5_1 ++ (⟨#[32]⟩ : ByteArray)).size + a1.size ≤ 9223372036854775807) = true := decide_eq_true c11
                        try have c11b2 : (9223372036854775807 < (x5_1 ++ (⟨#[32]⟩ : ByteArray)).size + a1.size) = False := eq_false (Nat.not_lt.2 c11)
                        (try have c11b3 : (9223372036854775807 < (x5_1.size + 1) + a1.size) = False := eq_false (Nat.not_lt.2 (by have h_ := c11; (try simp only [ByteArray.size_append] at h_); exact h_)))
                        have H' := Aside0.mk H
                        clear H
                        go_wp2
                        go_roundg kj5
                        case measure => have := HK1.out; have := HJ3.out; have := HJ5.out; omega
                        case rel => exact ⟨((x5_1 ++ (⟨#[32]⟩ : ByteArray)) ++ a1), (wrap64 (x6_1 + 1)), (by first | rfl | (simp; done) | (simp [*]; done)), (by first | rfl | (simp; done) | (simp [*]; done)), H', ⟨by have := HK1.out; have := HJ3.out; have := HJ5.out; omega⟩, by repeat (first | exact Drawn0.refl _ | apply Drawn0.step)⟩
                      · rw [if_neg c11] at H
                        exact absurd H (by simp)
                    · rw [if_neg c10] at H
                      exact absurd H (by simp)
                  · rw [if_neg c9] at H
                    have c9b0 : decide (1 < x6_1) = false := decide_eq_false c9
                    clear c9
                    by_cases c12 : x5_1.size + a1.size ≤ 9223372036854775807
                    · rw [if_pos c12] at H
                      have c12b0 := eq_true c12
                      have c12b1 : decide (x5_1.size + a1.size ≤ 9223372036854775807) = true := decide_eq_true c12
                      try have c12b2 : (9223372036854775807 < x5_1.size + a1.size) = False := eq_false (Nat.not_lt.2 c12)
                      have H' := Aside0.mk H
                      clear H
                      go_wp2
                      go_roundg kj5
                      case measure => have := HK1.out; have := HJ3.out; have := HJ5.out; omega
                      case rel => exact ⟨(x5_1 ++ a1), (wrap64 (x6_1 + 1)), (by first | rfl | (simp; done) | (simp [*]; done)), (by first | rfl | (simp; done) | (simp [*]; done)), H', ⟨by have := HK1.out; have := HJ3.out; have := HJ5.out; omega⟩, by repeat (first | exact Drawn0.refl _ | apply Drawn0.step)⟩
                    · rw [if_neg c12] at H
                      exact absurd H (by simp)
                · rw [if_neg c8] at H
                  have c8b0 : (x6_1 == a0) = false := beq_eq_false_iff_ne.mpr c8
                  have c8b1 : (x6_1 != a0) = true := bne_iff_ne.mpr c8
                  by_cases c13 : x6_1 > 1
                  · rw [if_pos c13] at H
                    have c13b0 : decide (1 < x6_1) = true := decide_eq_true c13
                    clear c13
                    by_cases c14 : x5_1.size + 1 ≤ 9223372036854775807
                    · rw [if_pos c14] at H
                      have c14b0 := eq_true c14
                      have c14b1 : decide (x5_1.size + 1 ≤ 9223372036854775807) = true := decide_eq_true c14
                      try have c14b2 : (9223372036854775807 < x5_1.size + 1) = False := eq_false (Nat.not_lt.2 c14)
                      by_cases c15 : (x5_1 ++ (⟨#[32]⟩ : ByteArray)).size + x7_5.size ≤ 9223372036854775807
                      · rw [if_pos c15] at H
                        have c15b0 := eq_true c15
                        have c15b1 : decide ((x5_1 ++ (⟨#[32]⟩ : ByteArray)).size + x7_5.size ≤ 9223372036854775807) = true := decide_eq_true c15
                        try have c15b2 : (9223372036854775807 < (x5_1 ++ (⟨#[32]⟩ : ByteArray)).size + x7_5.size) = False := eq_false (Nat.not_lt.2 c15)
                        (try have c15b3 : (9223372036854775807 < (x5_1.size + 1) + x7_5.size) = False := eq_false (Nat.not_lt.2 (by have h_ := c15; (try simp only [ByteArray.size_append] at h_); exact h_)))
                        have H' := Aside0.mk H
                        clear H
                        go_wp2
                        go_roundg kj5
                        case measure => have := HK1.out; have := HJ3.out; have := HJ5.out; omega
                        case rel => exact ⟨((x5_1 ++ (⟨#[32]⟩ : ByteArray)) ++ x7_5), (wrap64 (x6_1 + 1)), (by first | rfl | (simp; done) | (simp [*]; done)), (by first | rfl | (simp; done) | (simp [*]; done)), H', ⟨by have := HK1.out; have := HJ3.out; have := HJ5.out; omega⟩, by repeat (first | exact Drawn0.refl _ | apply Drawn0.step)⟩
                      · rw [if_neg c15] at H
                        exact absurd H (by simp)
                    · rw [if_neg c14] at H
                      exact absurd H (by simp)
                  · rw [if_neg c13] at H
                    have c13b0 : decide (1 < x6_1) = false := decide_eq_false c13
                    clear c13
                    by_cases c16 : x5_1.size + x7_5.size ≤ 9223372036854775807
                    · rw [if_pos c16] at H
                      have c16b0 := eq_true c16
                      have c16b1 : decide (x5_1.size + x7_5.size ≤ 9223372036854775807) = true := decide_eq_true c16
                      try have c16b2 : (9223372036854775807 < x5_1.size + x7_5.size) = False := eq_false (Nat.not_lt.2 c16)
                      have H' := Aside0.mk H
                      clear H
                      go_wp2
                      go_roundg kj5
                      case measure => have := HK1.out; have := HJ3.out; have := HJ5.out; omega
                      case rel => exact ⟨(x5_1 ++ x7_5), (wrap64 (x6_1 + 1)), (by first | rfl | (simp; done) | (simp [*]; done)), (by first | rfl | (simp; done) | (simp [*]; done)), H', ⟨by have := HK1.out; have := HJ3.out; have := HJ5.out; omega⟩, by repeat (first | exact Drawn0.refl _ | apply Drawn0.step)⟩
                    · rw [if_neg c16] at H
                      exact absurd H (by simp)
      · rw [if_neg c3] at H
        have c3b0 : decide (x6_1 ≤ 5) = false := decide_eq_false c3
        clear c3
        obtain rfl := Option.some.inj H
        go_wp2
        go_ret
        exact ⟨by first | rfl | (simp; done) | (simp [*]; done), by repeat (first | exact Drawn0.refl _ | apply Drawn0.step)⟩
end Go.Proofs.YtkhgeonlohafgaaGreatDoor.Core
namespace Go.Proofs.YtkhgeonlohafgaaGreatDoor.Core
open Go.RowKit Go.Proofs.YtkhgeonlohafgaaGreatDoorW.PrintWords Go.Proofs.YtkhgeonlohafgaaGreatDoorW.PrintLast Go.Proofs.YtkhgeonlohafgaaGreatDoorW.PrintMore
attribute [local go_sem] max2_int min2_int max_two min_two max_three min_three max_four min_four   -- for this text's walks alone
set_option linter.unusedVariables false
set_option linter.unusedSimpArgs false
def spec_Month.f (a0 : Int) : Option (ByteArray) := if 0 ≤ (wrap64 ((wrap64 (3 * a0)) - 3)) then (if (wrap64 ((wrap64 (3 * a0)) - 3)) ≤ (wrap64 (3 * a0)) then (if (wrap64 (3 * a0)) ≤ 36 then (some ((⟨#[74, 65, 78, 70, 69, 66, 77, 65, 82, 65, 80, 82, 77, 65, 89, 74, 85, 78, 74, 85, 76, 65, 85, 71, 83, 69, 80, 79, 67, 84, 78, 79, 86, 68, 69, 67]⟩ : ByteArray).extract ((wrap64 ((wrap64 (3 * a0)) - 3)) : Int).toNat ((wrap64 (3 * a0)) : Int).toNat)) else (none)) else (none)) else (none)
set_option maxHeartbeats 8000000 in
set_option maxRecDepth 100000 in
theorem spec_Month.calls (a0 : Int) (r : ByteArray) (w : World) (h : spec_Month.f a0 = some r) :
    Calls Tryz.prog 30 #[.int .i64 a0] w fun e w' => e = .returned (.string r) ∧ Drawn0 w w' := by
  have H : (if 0 ≤ (wrap64 ((wrap64 (3 * a0)) - 3)) then (if (wrap64 ((wrap64 (3 * a0)) - 3)) ≤ (wrap64 (3 * a0)) then (if (wrap64 (3 * a0)) ≤ 36 then (some ((⟨#[74, 65, 78, 70, 69, 66, 77, 65, 82, 65, 80, 82, 77, 65, 89, 74, 85, 78, 74, 85, 76, 65, 85, 71, 83, 69, 80, 79, 67, 84, 78, 79, 86, 68, 69, 67]⟩ : ByteArray).extract ((wrap64 ((wrap64 (3 * a0)) - 3)) : Int).toNat ((wrap64 (3 * a0)) : Int).toNat)) else (none)) else (none)) else (none)) = some r := h
  clear h
  obtain ⟨ji2, hji2⟩ : ∃ j_ : Int, (wrap64 ((wrap64 (3 * a0)) - 3)) = j_ := ⟨_, rfl⟩
  replace H : (if 0 ≤ (ji2) then (if (ji2) ≤ (wrap64 (3 * a0)) then (if (wrap64 (3 * a0)) ≤ 36 then (some ((⟨#[74, 65, 78, 70, 69, 66, 77, 65, 82, 65, 80, 82, 77, 65, 89, 74, 85, 78, 74, 85, 76, 65, 85, 71, 83, 69, 80, 79, 67, 84, 78, 79, 86, 68, 69, 67]⟩ : ByteArray).extract ((ji2) : Int).toNat ((wrap64 (3 * a0)) : Int).toNat)) else (none)) else (none)) else (none)) = some r := by first | (rw [hji2] at H; exact H) | (simp only [hji2] at H ⊢; exact H)
  have hji2w : (IntKind.i64.wrap ((wrap64 (3 * a0)) - 3)) = ji2 := (i64_w _).trans hji2
  by_cases c3 : 0 ≤ (ji2)
  · rw [if_pos c3] at H
    have c3b0 := eq_true c3
    have c3b1 : decide (0 ≤ (ji2)) = true := decide_eq_true c3
    clear c3
    by_cases c4 : (ji2) ≤ (wrap64 (3 * a0))
    · rw [if_pos c4] at H
      have c4b0 := eq_true c4
      have c4b1 : decide ((ji2) ≤ (wrap64 (3 * a0))) = true := decide_eq_true c4
      clear c4
      by_cases c5 : (wrap64 (3 * a0)) ≤ 36
      · rw [if_pos c5] at H
        have c5b0 := eq_true c5
        have c5b1 : decide ((wrap64 (3 * a0)) ≤ 36) = true := decide_eq_true c5
        clear c5
        obtain rfl := Option.some.inj H
        go_enter Tryz.func30, Tryz.ntmps30
        go_wp2
        go_ret
        exact ⟨by first | rfl | (simp; done) | (simp only [← hji2] <;> (first | rfl | simp)) | (simp [*]; done), by repeat (first | exact Drawn0.refl _ | apply Drawn0.step)⟩
      · rw [if_neg c5] at H
        exact absurd H (by simp)
    · rw [if_neg c4] at H
      exact absurd H (by simp)
  · rw [if_neg c3] at H
    exact absurd H (by simp)
end Go.Proofs.YtkhgeonlohafgaaGreatDoor.Core
namespace Go.Proofs.YtkhgeonlohafgaaGreatDoor.Core
open Go.RowKit Go.Proofs.YtkhgeonlohafgaaGreatDoorW.PrintWords Go.Proofs.YtkhgeonlohafgaaGreatDoorW.PrintLast Go.Proofs.YtkhgeonlohafgaaGreatDoorW.PrintMore
attribute [local go_sem] max2_int min2_int max_two min_two max_three min_three max_four min_four   -- for this text's walks alone
set_option linter.unusedVariables false
set_option linter.unusedSimpArgs false
def spec_Decimal.f : Nat → Int → Option (ByteArray)
  | 0, _ => none
  | k + 1, a0 => if a0 < 10 then (if 0 ≤ a0 then (if a0 ≤ (wrap64 (a0 + 1)) then (if (wrap64 (a0 + 1)) ≤ 10 then (some ((⟨#[48, 49, 50, 51, 52, 53, 54, 55, 56, 57]⟩ : ByteArray).extract (a0 : Int).toNat ((wrap64 (a0 + 1)) : Int).toNat)) else (none)) else (none)) else (none)) else ((spec_Decimal.f k (wrap64 (Int.tdiv a0 10))).bind fun t103 => ((spec_Decimal.f k (Int.tmod a0 10)).bind fun t104 => (if t103.size + t104.size ≤ 9223372036854775807 then (some (t103 ++ t104)) else (none))))
set_option maxHeartbeats 8000000 in
set_option maxRecDepth 100000 in
theorem spec_Decimal.calls (k : Nat) : ∀ (a0 : Int) (r : ByteArray) (w : World) (h : spec_Decimal.f k a0 = some r),
    Calls Tryz.prog 16 #[.int .i64 a0] w fun e w' => e = .returned (.string r) ∧ Drawn0 w w' := by
  induction k using Nat.strongRecOn with
  | _ k ih =>
  intro a0 r w h
  cases k with
  | zero => exact absurd h (by simp [spec_Decimal.f])
  | succ k =>
  simp only [spec_Decimal.f] at h
  have H : (if a0 < 10 then (if 0 ≤ a0 then (if a0 ≤ (wrap64 (a0 + 1)) then (if (wrap64 (a0 + 1)) ≤ 10 then (some ((⟨#[48, 49, 50, 51, 52, 53, 54, 55, 56, 57]⟩ : ByteArray).extract (a0 : Int).toNat ((wrap64 (a0 + 1)) : Int).toNat)) else (none)) else (none)) else (none)) else ((spec_Decimal.f k (wrap64 (Int.tdiv a0 10))).bind fun t103 => ((spec_Decimal.f k (Int.tmod a0 10)).bind fun t104 => (if t103.size + t104.size ≤ 9223372036854775807 then (some (t103 ++ t104)) else (none))))) = some r := h
  clear h
  by_cases c2 : a0 < 10
  · rw [if_pos c2] at H
    have c2b0 : decide (a0 < 10) = true := decide_eq_true c2
    clear c2
    by_cases c3 : 0 ≤ a0
    · rw [if_pos c3] at H
      have c3b0 := eq_true c3
      have c3b1 : decide (0 ≤ a0) = true := decide_eq_true c3
      clear c3
      by_cases c4 : a0 ≤ (wrap64 (a0 + 1))
      · rw [if_pos c4] at H
        have c4b0 := eq_true c4
        have c4b1 : decide (a0 ≤ (wrap64 (a0 + 1))) = true := decide_eq_true c4
        by_cases c5 : (wrap64 (a0 + 1)) ≤ 10
        · rw [if_pos c5] at H
          have c5b0 := eq_true c5
          have c5b1 : decide ((wrap64 (a0 + 1)) ≤ 10) = true := decide_eq_true c5
          obtain rfl := Option.some.inj H
          go_enter Tryz.func16, Tryz.ntmps16
          go_wp2
          go_ret
          exact ⟨by first | rfl | (simp; done) | (simp [*]; done), by repeat (first | exact Drawn0.refl _ | apply Drawn0.step)⟩
        · rw [if_neg c5] at H
          exact absurd H (by simp)
      · rw [if_neg c4] at H
        exact absurd H (by simp)
    · rw [if_neg c3] at H
      exact absurd H (by simp)
  · rw [if_neg c2] at H
    have c2b0 : decide (a0 < 10) = false := decide_eq_false c2
    clear c2
    replace H := Option.bind_eq_some_iff.mp H
    obtain ⟨t103, A60, H⟩ := H
    replace H : ((spec_Decimal.f k (Int.tmod a0 10)).bind fun t104 => (if t103.size + t104.size ≤ 9223372036854775807 then (some (t103 ++ t104)) else (none))) = some r := H
    have A6 := Aside0.mk A60
    clear A60
    replace H := Option.bind_eq_some_iff.mp H
    obtain ⟨t104, A70, H⟩ := H
    replace H : (if t103.size + t104.size ≤ 9223372036854775807 then (some (t103 ++ t104)) else (none)) = some r := H
    have A7 := Aside0.mk A70
    clear A70
    by_cases c8 : t103.size + t104.size ≤ 9223372036854775807
    · rw [if_pos c8] at H
      have c8b0 := eq_true c8
      have c8b1 : decide (t103.size + t104.size ≤ 9223372036854775807) = true := decide_eq_true c8
      try have c8b2 : (9223372036854775807 < t103.size + t104.size) = False := eq_false (Nat.not_lt.2 c8)
      obtain rfl := Option.some.inj H
      go_enter Tryz.func16, Tryz.ntmps16
      go_wp2_with (first | ((with_reducible refine gate_callee (f := 16) rfl ?_); refine goesL_ (some 11) rfl rfl Tryz.func16 (by kernel_rfl) rfl #[.int .i64 (wrap64 (Int.tdiv a0 10))] rfl (by (try simp only [List.map_toArray, List.map_cons, List.map_nil]); first | done | rfl | (simp only [List.length_drop, List.length_take]; rfl)) ?_; (with_reducible refine (ih k (by omega) (wrap64 (Int.tdiv a0 10)) t103 _ A6.out).mono ?_); rintro e w' ⟨rfl, ⟨nd, rfl⟩⟩; refine ⟨_, rfl, ?_⟩) | ((with_reducible refine gate_callee (f := 16) rfl ?_); refine goesL_ (some 14) rfl rfl Tryz.func16 (by kernel_rfl) rfl #[.int .i64 (Int.tmod a0 10)] rfl (by (try simp only [List.map_toArray, List.map_cons, List.map_nil]); first | done | rfl | (simp only [List.length_drop, List.length_take]; rfl)) ?_; (with_reducible refine (ih k (by omega) (Int.tmod a0 10) t104 _ A7.out).mono ?_); rintro e w' ⟨rfl, ⟨nd, rfl⟩⟩; refine ⟨_, rfl, ?_⟩))
      go_ret
      exact ⟨by first | rfl | (simp; done) | (simp [*]; done), by repeat (first | exact Drawn0.refl _ | apply Drawn0.step)⟩
    · rw [if_neg c8] at H
      exact absurd H (by simp)
end Go.Proofs.YtkhgeonlohafgaaGreatDoor.Core
namespace Go.Proofs.YtkhgeonlohafgaaGreatDoor.Core
open Go.RowKit
theorem calls_one {P : Program} {f : FuncId} {args : Array Value} {w : World} {r r' : Value} {R R' : World → Prop} (h : Calls P f args w fun e w' => e = .returned r ∧ R w') (h' : Calls P f args w fun e w' => e = .returned r' ∧ R' w') (hi : P.inits.idxOf? f = none) : r = r' := by
  have g : ∀ {q : Value} {Q : World → Prop}, Calls P f args w (fun e w' => e = .returned q ∧ Q w') → Calls P f args w fun | .returned v, w' => v = q ∧ w' = w' | _, _ => False :=
    fun h => h.mono fun e w' h => by obtain ⟨rfl, _⟩ := h; exact ⟨rfl, rfl⟩
  obtain ⟨n, v, w1, e1, r1, _⟩ := (g h).done hi
  obtain ⟨m, v', w2, e2, r2, _⟩ := (g h').done hi
  have := runN_same_end e1 e2
  injection this with hv
  rw [← r1, ← r2, hv]
end Go.Proofs.YtkhgeonlohafgaaGreatDoor.Core
namespace Go.Proofs.YtkhgeonlohafgaaGreatDoor.Core
open Go.RowKit
def DueC (t : ByteArray) (y mo d h mi s : Int) (b ok : Bool) : Prop := ∀ w, Calls Tryz.prog 24 #[.string t, .agg #[.int .i64 y, .int .i64 mo, .int .i64 d, .int .i64 h, .int .i64 mi, .int .i64 s]] w fun e w' => e = .returned (.tuple #[.bool b, .bool ok]) ∧ Below w.heap.size w w'
open Classical in
noncomputable def impl_Due.f (t : ByteArray) (y mo d h mi s : Int) : Option (Bool × Bool) :=
  if hx : ∃ p : Bool × Bool, DueC t y mo d h mi s p.1 p.2 then some (Classical.choose hx) else none
theorem impl_Due.calls (t : ByteArray) (y mo d h mi s : Int) (r1 r2 : Bool) (w : World) (hf : impl_Due.f t y mo d h mi s = some (r1, r2)) :
    Calls Tryz.prog 24 #[.string t, .agg #[.int .i64 y, .int .i64 mo, .int .i64 d, .int .i64 h, .int .i64 mi, .int .i64 s]] w fun e w' => e = .returned (.tuple #[.bool r1, .bool r2]) ∧ Below w.heap.size w w' := by
  unfold impl_Due.f at hf
  split at hf
  · rename_i hx
    have hp := Classical.choose_spec hx
    rw [Option.some.inj hf] at hp
    exact hp w
  · cases hf
theorem DueC.eq {t : ByteArray} {y mo d h mi s : Int} {b ok : Bool} (hd : DueC t y mo d h mi s b ok) : impl_Due.f t y mo d h mi s = some (b, ok) := by
  have hx : ∃ p : Bool × Bool, DueC t y mo d h mi s p.1 p.2 := ⟨(b, ok), hd⟩
  unfold impl_Due.f
  rw [dif_pos hx]
  have hp := Classical.choose_spec hx
  have e := calls_one (hp default) (hd default) (by kernel_rfl)
  injection e with e
  generalize Classical.choose hx = p at e
  obtain ⟨p1, p2⟩ := p
  simp at e
  rw [e.1, e.2]
end Go.Proofs.YtkhgeonlohafgaaGreatDoor.Core
namespace Go.Proofs.YtkhgeonlohafgaaGreatDoor.Core
open Go.RowKit
def LowerC (t : ByteArray) (b : ByteArray) : Prop := ∀ w, Calls Tryz.prog 26 #[.string t] w fun e w' => e = .returned (.string b) ∧ Below w.heap.size w w'
open Classical in
noncomputable def spec_Lower.f (t : ByteArray) : Option ByteArray :=
  if hx : ∃ p : ByteArray, LowerC t p then some (Classical.choose hx) else none
theorem spec_Lower.calls (t : ByteArray) (r : ByteArray) (w : World) (hf : spec_Lower.f t = some r) :
    Calls Tryz.prog 26 #[.string t] w fun e w' => e = .returned (.string r) ∧ Below w.heap.size w w' := by
  unfold spec_Lower.f at hf
  split at hf
  · rename_i hx
    have hp := Classical.choose_spec hx
    rw [Option.some.inj hf] at hp
    exact hp w
  · cases hf
theorem LowerC.eq {t : ByteArray} {b : ByteArray} (hd : LowerC t b) : spec_Lower.f t = some b := by
  have hx : ∃ p : ByteArray, LowerC t p := ⟨b, hd⟩
  unfold spec_Lower.f
  rw [dif_pos hx]
  have hp := Classical.choose_spec hx
  have e := calls_one (hp default) (hd default) (by kernel_rfl)
  injection e with e
  rw [e]
end Go.Proofs.YtkhgeonlohafgaaGreatDoor.Core
namespace Go.Proofs.YtkhgeonlohafgaaGreatDoor.Core
open Go.RowKit
def GoodC (y mo d h mi s : Int) (b : Bool) : Prop := ∀ w, Calls Tryz.prog 12 #[.agg #[.int .i64 y, .int .i64 mo, .int .i64 d, .int .i64 h, .int .i64 mi, .int .i64 s]] w fun e w' => e = .returned (.bool b) ∧ Below w.heap.size w w'
open Classical in
noncomputable def spec_MomentGood.f (y mo d h mi s : Int) : Option Bool :=
  if hx : ∃ p : Bool, GoodC y mo d h mi s p then some (Classical.choose hx) else none
theorem spec_MomentGood.calls (y mo d h mi s : Int) (r : Bool) (w : World) (hf : spec_MomentGood.f y mo d h mi s = some r) :
    Calls Tryz.prog 12 #[.agg #[.int .i64 y, .int .i64 mo, .int .i64 d, .int .i64 h, .int .i64 mi, .int .i64 s]] w fun e w' => e = .returned (.bool r) ∧ Below w.heap.size w w' := by
  unfold spec_MomentGood.f at hf
  split at hf
  · rename_i hx
    have hp := Classical.choose_spec hx
    rw [Option.some.inj hf] at hp
    exact hp w
  · cases hf
theorem GoodC.eq {y mo d h mi s : Int} {b : Bool} (hd : GoodC y mo d h mi s b) : spec_MomentGood.f y mo d h mi s = some b := by
  have hx : ∃ p : Bool, GoodC y mo d h mi s p := ⟨b, hd⟩
  unfold spec_MomentGood.f
  rw [dif_pos hx]
  have hp := Classical.choose_spec hx
  have e := calls_one (hp default) (hd default) (by kernel_rfl)
  injection e with e
  rw [e]
end Go.Proofs.YtkhgeonlohafgaaGreatDoor.Core
namespace Go.Proofs.YtkhgeonlohafgaaGreatDoor.Core
open Go.RowKit Go.Proofs.YtkhgeonlohafgaaGreatDoorW.PrintWords Go.Proofs.YtkhgeonlohafgaaGreatDoorW.PrintLast Go.Proofs.YtkhgeonlohafgaaGreatDoorW.PrintMore
attribute [local go_sem] max2_int min2_int max_two min_two max_three min_three max_four min_four   -- for this text's walks alone
set_option linter.unusedVariables false
set_option linter.unusedSimpArgs false
noncomputable def laws_FnMonthNames.j0 : Nat → Int → Bool → Int → Int → Int → Int → Int → Int → Option (Bool)
  | 0, _, _, _, _, _, _, _, _ => none
  | k + 1, x0, x22, x431000, x431001, x431002, x431003, x431004, x431005 => if x22 = true then (some true) else ((spec_Decimal.f k x0).bind fun t438 => ((laws_stars.f k 4 t438).bind fun t439 => ((impl_Due.f t439 x431000 x431001 x431002 0 0 0).bind fun bt440 => ((spec_Month.f x0).bind fun t442 => ((laws_stars.f k 4 t442).bind fun t443 => ((impl_Due.f t443 x431000 x431001 x431002 0 0 0).bind fun bt444 => ((spec_Month.f x0).bind fun t446 => ((spec_Lower.f t446).bind fun t447 => ((laws_stars.f k 4 t447).bind fun t448 => ((impl_Due.f t448 x431000 x431001 x431002 0 0 0).bind fun bt449 => (if bt440.2 = true then (if bt444.2 = true then (if bt449.2 = true then (if (bt440.1 == (x431001 == x0)) = true then (if (bt444.1 == bt440.1) = true then (some (bt449.1 == bt440.1)) else (some false)) else (some false)) else (some false)) else (some false)) else (some false))))))))))))
noncomputable def laws_FnMonthNames.f (k : Nat) (a0 : Int) (a1_0 : Int) (a1_1 : Int) (a1_2 : Int) (a1_3 : Int) (a1_4 : Int) (a1_5 : Int) : Option (Bool) := if a0 < 1 then (laws_FnMonthNames.j0 k a0 true a1_0 a1_1 a1_2 a1_3 a1_4 a1_5) else (if a0 > 12 then (laws_FnMonthNames.j0 k a0 true a1_0 a1_1 a1_2 a1_3 a1_4 a1_5) else ((laws_moment.f a1_0 a1_1 a1_2 a1_3 a1_4 a1_5).bind fun bt431 => ((spec_MomentGood.f bt431.1 bt431.2.1 bt431.2.2.1 bt431.2.2.2.1 bt431.2.2.2.2.1 bt431.2.2.2.2.2).bind fun t437 => (laws_FnMonthNames.j0 k a0 (!t437) a1_0 a1_1 a1_2 a1_3 a1_4 a1_5))))
def laws_FnMonthNames.T4 : Bool × List (List Nat × List Nat) := (true, [([], []), ([0], [0]), ([1, 1], [1]), ([], []), ([2, 3, 2], [2, 3]), ([4], [4]), ([5], [5]), ([5], [5]), ([6, 4, 0, 1, 2, 3, 4, 5, 6], [6]), ([7, 8, 0, 1, 2, 3, 4, 5, 6, 7, 8], [7])])
def laws_FnMonthNames.B4 : List Nat := [0, 1, 3, 0, 15, 31, 63, 63, 127, 511]
theorem laws_FnMonthNames.tab4 : rtab .any (opsOf Tryz.f11 4) = laws_FnMonthNames.T4 := by kernel_rfl
theorem laws_FnMonthNames.bits4 : waitsOk laws_FnMonthNames.T4.2 laws_FnMonthNames.B4 = true := by kernel_rfl
def laws_FnMonthNames.T5 : Bool × List (List Nat × List Nat) := (true, [([], []), ([0], [0]), ([1, 1], [1]), ([], []), ([2, 3, 2], [2, 3]), ([4], [4]), ([5], [5]), ([5], [5]), ([6, 4, 0, 1, 2, 3, 4, 5, 6], [6]), ([7, 8, 0, 1, 2, 3, 4, 5, 6, 7, 8], [7])])
def laws_FnMonthNames.B5 : List Nat := [0, 1, 3, 0, 15, 31, 63, 63, 127, 511]
theorem laws_FnMonthNames.tab5 : rtab .any (opsOf Tryz.f11 5) = laws_FnMonthNames.T5 := by kernel_rfl
theorem laws_FnMonthNames.bits5 : waitsOk laws_FnMonthNames.T5.2 laws_FnMonthNames.B5 = true := by kernel_rfl
def laws_FnMonthNames.T6 : Bool × List (List Nat × List Nat) := (true, [([], []), ([0], [0]), ([1, 1], [1]), ([2, 2], [2]), ([], []), ([3, 4, 3], [3, 4]), ([5], [5]), ([6], [6]), ([6], [6]), ([7, 5, 0, 1, 2, 3, 4, 5, 6, 7], [7]), ([8, 9, 0, 1, 2, 3, 4, 5, 6, 7, 8, 9], [8])])
def laws_FnMonthNames.B6 : List Nat := [0, 1, 3, 7, 0, 31, 63, 127, 127, 255, 1023]
theorem laws_FnMonthNames.tab6 : rtab .any (opsOf Tryz.f11 6) = laws_FnMonthNames.T6 := by kernel_rfl
theorem laws_FnMonthNames.bits6 : waitsOk laws_FnMonthNames.T6.2 laws_FnMonthNames.B6 = true := by kernel_rfl
set_option maxHeartbeats 8000000 in
set_option maxRecDepth 100000 in
theorem laws_FnMonthNames.calls (k : Nat) (a0 : Int) (a1_0 : Int) (a1_1 : Int) (a1_2 : Int) (a1_3 : Int) (a1_4 : Int) (a1_5 : Int) (r : Bool) (w : World) (h : laws_FnMonthNames.f k a0 a1_0 a1_1 a1_2 a1_3 a1_4 a1_5 = some r) :
    Calls Tryz.prog 11 #[.int .i64 a0, .agg #[.int .i64 a1_0, .int .i64 a1_1, .int .i64 a1_2, .int .i64 a1_3, .int .i64 a1_4, .int .i64 a1_5]] w fun e w' => e = .returned (.bool r) ∧ Below w.heap.size w w' := by
  have hu23 := Tryz.underlying23
  have HB := Aside0.mk (Below.refl w.heap.size w)
  have H : (if a0 < 1 then (laws_FnMonthNames.j0 k a0 true a1_0 a1_1 a1_2 a1_3 a1_4 a1_5) else (if a0 > 12 then (laws_FnMonthNames.j0 k a0 true a1_0 a1_1 a1_2 a1_3 a1_4 a1_5) else ((laws_moment.f a1_0 a1_1 a1_2 a1_3 a1_4 a1_5).bind fun bt431 => ((spec_MomentGood.f bt431.1 bt431.2.1 bt431.2.2.1 bt431.2.2.2.1 bt431.2.2.2.2.1 bt431.2.2.2.2.2).bind fun t437 => (laws_FnMonthNames.j0 k a0 (!t437) a1_0 a1_1 a1_2 a1_3 a1_4 a1_5))))) = some r := h
  clear h
  have HC3 := Aside0.mk H
  clear H
  go_enter Tryz.func11, Tryz.ntmps11
  go_upto_region 1 with (first | ((with_reducible refine gate_dst (N := 3) rfl ?_); refine box_event ?hg (N := 3) ?hd (cs := #[.int .i64 a1_0, .int .i64 a1_1, .int .i64 a1_2, .int .i64 a1_3, .int .i64 a1_4, .int .i64 a1_5]) (t := 23) ?hr ?_; (case hd => rfl); (case hg => rfl); (case hr => first | (go_simp; done) | (go_simp; rfl)); intro gb430 hg w4 hbox hb; have n0_ := Aside0.mk (below_step (by repeat (first | (with_reducible first | exact HB.out | apply below_alloc | apply pw_below_drewN | apply below_drew1) | exact HB.out)) hb); have n1_ := Aside0.mk (hbox); have n2_ := Aside0.mk ((by rw [hg]; exact (below_size (by repeat (first | (with_reducible first | exact HB.out | apply below_alloc | apply pw_below_drewN | apply below_drew1) | exact HB.out))) : w.heap.size ≤ gb430)); have n3_ := Aside0.mk ((by rw [hg]; exact (below_size (by repeat (first | (with_reducible first | exact HB.out | apply below_alloc | apply pw_below_drewN | apply below_drew1) | exact HB.out))) : w.heap.size ≤ gb430)); clear HB; have HB := n0_; have BK430 := n1_; have GW430 := n2_; have GE430 := n3_; clear n0_ n1_ n2_ n3_; clear hb hbox hg))
  (try simp only [Act.put, List.setIfInBounds_toArray, List.set_cons_zero, List.set_cons_succ])
  go_cut [22] (fun v22 wc => ∃ (kq : Nat) (x22_2 : Bool), v22 = .bool x22_2 ∧ Aside0 (laws_FnMonthNames.j0 kq a0 x22_2 a1_0 a1_1 a1_2 a1_3 a1_4 a1_5 = some r) ∧ Aside0 (kq ≤ k) ∧ Aside0 (wc.heap[gb430]? = some (.cells #[.int .i64 a1_0, .int .i64 a1_1, .int .i64 a1_2, .int .i64 a1_3, .int .i64 a1_4, .int .i64 a1_5] 23 (0, 0))) ∧ Aside0 (Below w.heap.size w wc))
  case first =>
    have H := HC3.out
    clear HC3
    by_cases c5 : a0 < 1
    · rw [if_pos c5] at H
      have c5b0 : decide (a0 < 1) = true := decide_eq_true c5
      clear c5
      (first | rw [c5b0] | (simp only [i64_w, i32_w]; rw [c5b0]) | skip)
      have H' := Aside0.mk H
      clear H
      go_wp2
      go_meet
      case rel => exact ⟨_, (true), (by first | rfl | (simp; done) | (simp [*]; done)), H', ⟨by first | omega | exact Nat.le_refl _⟩, ⟨by (with_reducible repeat (first | refine blk_drewN ?_ _ | refine blk_drew ?_ | refine blk_alloc ?_ _)); exact BK430.out⟩, ⟨by repeat (first | (with_reducible first | exact HB.out | apply below_alloc | apply pw_below_drewN | apply below_drew1 | refine below_set ?_ GE430.out) | exact HB.out)⟩⟩
    · rw [if_neg c5] at H
      have c5b0 : decide (a0 < 1) = false := decide_eq_false c5
      clear c5
      (first | rw [c5b0] | (simp only [i64_w, i32_w]; rw [c5b0]) | skip)
      by_cases c6 : a0 > 12
      · rw [if_pos c6] at H
        have c6b0 : decide (12 < a0) = true := decide_eq_true c6
        clear c6
        have H' := Aside0.mk H
        clear H
        go_wp2
        go_meet
        case rel => exact ⟨_, (true), (by first | rfl | (simp; done) | (simp [*]; done)), H', ⟨by first | omega | exact Nat.le_refl _⟩, ⟨by (with_reducible repeat (first | refine blk_drewN ?_ _ | refine blk_drew ?_ | refine blk_alloc ?_ _)); exact BK430.out⟩, ⟨by repeat (first | (with_reducible first | exact HB.out | apply below_alloc | apply pw_below_drewN | apply below_drew1 | refine below_set ?_ GE430.out) | exact HB.out)⟩⟩
      · rw [if_neg c6] at H
        have c6b0 : decide (12 < a0) = false := decide_eq_false c6
        clear c6
        replace H := Option.bind_eq_some_iff.mp H
        obtain ⟨⟨t431, t432, t433, t434, t435, t436⟩, A70, H⟩ := H
        replace H : ((spec_MomentGood.f t431 t432 t433 t434 t435 t436).bind fun t437 => (laws_FnMonthNames.j0 k a0 (!t437) a1_0 a1_1 a1_2 a1_3 a1_4 a1_5)) = some r := H
        have A7 := Aside0.mk A70
        clear A70
        replace H := Option.bind_eq_some_iff.mp H
        obtain ⟨t437, A80, H⟩ := H
        replace H : (laws_FnMonthNames.j0 k a0 (!t437) a1_0 a1_1 a1_2 a1_3 a1_4 a1_5) = some r := H
        have A8 := Aside0.mk A80
        clear A80
        have H' := Aside0.mk H
        clear H
        have hcz9_0 : w4.cell? ⟨gb430, 0, none⟩ = some (.int .i64 a1_0) := (blk_cell BK430.out 0).trans rfl
        have hcz9_1 : w4.cell? ⟨gb430, 1, none⟩ = some (.int .i64 a1_1) := (blk_cell BK430.out 1).trans rfl
        have hcz9_2 : w4.cell? ⟨gb430, 2, none⟩ = some (.int .i64 a1_2) := (blk_cell BK430.out 2).trans rfl
        have hcz9_3 : w4.cell? ⟨gb430, 3, none⟩ = some (.int .i64 a1_3) := (blk_cell BK430.out 3).trans rfl
        have hcz9_4 : w4.cell? ⟨gb430, 4, none⟩ = some (.int .i64 a1_4) := (blk_cell BK430.out 4).trans rfl
        have hcz9_5 : w4.cell? ⟨gb430, 5, none⟩ = some (.int .i64 a1_5) := (blk_cell BK430.out 5).trans rfl
        have hfz9_0 := blk_frozen BK430.out 0
        have hfz9_1 := blk_frozen BK430.out 1
        have hfz9_2 := blk_frozen BK430.out 2
        have hfz9_3 := blk_frozen BK430.out 3
        have hfz9_4 := blk_frozen BK430.out 4
        have hfz9_5 := blk_frozen BK430.out 5
        go_wp2_with (first | (go_at_call 13; (with_reducible refine (laws_moment.calls a1_0 a1_1 a1_2 a1_3 a1_4 a1_5 t431 t432 t433 t434 t435 t436 _ A7.out).mono ?_); rintro e w10 ⟨rfl, hb⟩; have n0_ := Aside0.mk (blk_below (g := gb430) (o := .cells #[.int .i64 a1_0, .int .i64 a1_1, .int .i64 a1_2, .int .i64 a1_3, .int .i64 a1_4, .int .i64 a1_5] 23 (0, 0)) (by (with_reducible repeat (first | refine blk_drewN ?_ _ | refine blk_drew ?_ | refine blk_alloc ?_ _)); exact BK430.out) hb); have n1_ := Aside0.mk (below_step (by repeat (first | (with_reducible first | exact HB.out | apply below_alloc | apply pw_below_drewN | apply below_drew1 | refine below_set ?_ GE430.out) | exact HB.out)) hb); clear BK430; clear HB; have BK430 := n0_; have HB := n1_; clear n0_ n1_; (try clear hb); (try clear hb2); (try clear hk); (try clear hi)) | (go_at_call 12; (with_reducible refine (spec_MomentGood.calls t431 t432 t433 t434 t435 t436 t437 _ A8.out).mono ?_); rintro e w11 ⟨rfl, hb⟩; have n0_ := Aside0.mk (blk_below (g := gb430) (o := .cells #[.int .i64 a1_0, .int .i64 a1_1, .int .i64 a1_2, .int .i64 a1_3, .int .i64 a1_4, .int .i64 a1_5] 23 (0, 0)) (by (with_reducible repeat (first | refine blk_drewN ?_ _ | refine blk_drew ?_ | refine blk_alloc ?_ _)); exact BK430.out) hb); have n1_ := Aside0.mk (below_step (by repeat (first | (with_reducible first | exact HB.out | apply below_alloc | apply pw_below_drewN | apply below_drew1 | refine below_set ?_ GE430.out) | exact HB.out)) hb); clear BK430; clear HB; have BK430 := n0_; have HB := n1_; clear n0_ n1_; (try clear hb); (try clear hb2); (try clear hk); (try clear hi)))
        go_meet
        case rel => exact ⟨_, (!t437), (by first | rfl | (simp; done) | (simp [*]; done)), H', ⟨by first | omega | exact Nat.le_refl _⟩, ⟨by (with_reducible repeat (first | refine blk_drewN ?_ _ | refine blk_drew ?_ | refine blk_alloc ?_ _)); exact BK430.out⟩, ⟨by repeat (first | (with_reducible first | exact HB.out | apply below_alloc | apply pw_below_drewN | apply below_drew1 | refine below_set ?_ GE430.out) | exact HB.out)⟩⟩
  case rest =>
    clear HC3
    try clear c1
    try clear p2
    try clear c5
    try clear c5b0
    try clear c6
    try clear c6b0
    try clear c11
    try clear hcz9_0
    try clear hcz9_1
    try clear hcz9_2
    try clear hcz9_3
    try clear hcz9_4
    try clear hcz9_5
    try clear hfz9_0
    try clear hfz9_1
    try clear hfz9_2
    try clear hfz9_3
    try clear hfz9_4
    try clear hfz9_5
    obtain ⟨kq, x22_2, rfl, HA, HJ2, BK430, HB⟩ := hcut
    cases kq with
    | zero => exact absurd HA.out (by simp [laws_FnMonthNames.j0])
    | succ kj2 =>
      have H := HA.out
      clear HA
      simp only [laws_FnMonthNames.j0] at H
      by_cases c12 : x22_2 = true
      · subst c12
        have H1 : (some true) = some r := by rw [if_pos rfl] at H; exact H
        clear H
        have H := H1
        clear H1
        obtain rfl := Option.some.inj H
        go_wp2
        go_ret
        exact ⟨by first | rfl | (simp [errW_none, errW_some] <;> rfl) | (simp [*, errW_none, errW_some] <;> rfl), by repeat (first | (with_reducible first | exact HB.out | apply below_alloc | apply pw_below_drewN | apply below_drew1 | refine below_set ?_ GE430.out) | exact HB.out)⟩
      · replace c12 := Bool.eq_false_iff.mpr c12
        subst c12
        have H1 : ((spec_Decimal.f kj2 a0).bind fun t438 => ((laws_stars.f kj2 4 t438).bind fun t439 => ((impl_Due.f t439 a1_0 a1_1 a1_2 0 0 0).bind fun bt440 => ((spec_Month.f a0).bind fun t442 => ((laws_stars.f kj2 4 t442).bind fun t443 => ((impl_Due.f t443 a1_0 a1_1 a1_2 0 0 0).bind fun bt444 => ((spec_Month.f a0).bind fun t446 => ((spec_Lower.f t446).bind fun t447 => ((laws_stars.f kj2 4 t447).bind fun t448 => ((impl_Due.f t448 a1_0 a1_1 a1_2 0 0 0).bind fun bt449 => (if bt440.2 = true then (if bt444.2 = true then (if bt449.2 = true then (if (bt440.1 == (a1_1 == a0)) = true then (if (bt444.1 == bt440.1) = true then (some (bt449.1 == bt440.1)) else (some false)) else (some false)) else (some false)) else (some false)) else (some false)))))))))))) = some r := by rw [if_neg (show ¬ (false = true) by decide)] at H; exact H
        clear H
        have H := H1
        clear H1
        replace H := Option.bind_eq_some_iff.mp H
        obtain ⟨t438, A130, H⟩ := H
        replace H : ((laws_stars.f kj2 4 t438).bind fun t439 => ((impl_Due.f t439 a1_0 a1_1 a1_2 0 0 0).bind fun bt440 => ((spec_Month.f a0).bind fun t442 => ((laws_stars.f kj2 4 t442).bind fun t443 => ((impl_Due.f t443 a1_0 a1_1 a1_2 0 0 0).bind fun bt444 => ((spec_Month.f a0).bind fun t446 => ((spec_Lower.f t446).bind fun t447 => ((laws_stars.f kj2 4 t447).bind fun t448 => ((impl_Due.f t448 a1_0 a1_1 a1_2 0 0 0).bind fun bt449 => (if bt440.2 = true then (if bt444.2 = true then (if bt449.2 = true then (if (bt440.1 == (a1_1 == a0)) = true then (if (bt444.1 == bt440.1) = true then (some (bt449.1 == bt440.1)) else (some false)) else (some false)) else (some false)) else (some false)) else (some false))))))))))) = some r := H
        have A13 := Aside0.mk A130
        clear A130
        replace H := Option.bind_eq_some_iff.mp H
        obtain ⟨t439, A140, H⟩ := H
        replace H : ((impl_Due.f t439 a1_0 a1_1 a1_2 0 0 0).bind fun bt440 => ((spec_Month.f a0).bind fun t442 => ((laws_stars.f kj2 4 t442).bind fun t443 => ((impl_Due.f t443 a1_0 a1_1 a1_2 0 0 0).bind fun bt444 => ((spec_Month.f a0).bind fun t446 => ((spec_Lower.f t446).bind fun t447 => ((laws_stars.f kj2 4 t447).bind fun t448 => ((impl_Due.f t448 a1_0 a1_1 a1_2 0 0 0).bind fun bt449 => (if bt440.2 = true then (if bt444.2 = true then (if bt449.2 = true then (if (bt440.1 == (a1_1 == a0)) = true then (if (bt444.1 == bt440.1) = true then (some (bt449.1 == bt440.1)) else (some false)) else (some false)) else (some false)) else (some false)) else (some false)))))))))) = some r := H
        have A14 := Aside0.mk A140
        clear A140
        replace H := Option.bind_eq_some_iff.mp H
        obtain ⟨⟨t440, t441⟩, A150, H⟩ := H
        replace H : ((spec_Month.f a0).bind fun t442 => ((laws_stars.f kj2 4 t442).bind fun t443 => ((impl_Due.f t443 a1_0 a1_1 a1_2 0 0 0).bind fun bt444 => ((spec_Month.f a0).bind fun t446 => ((spec_Lower.f t446).bind fun t447 => ((laws_stars.f kj2 4 t447).bind fun t448 => ((impl_Due.f t448 a1_0 a1_1 a1_2 0 0 0).bind fun bt449 => (if t441 = true then (if bt444.2 = true then (if bt449.2 = true then (if (t440 == (a1_1 == a0)) = true then (if (bt444.1 == t440) = true then (some (bt449.1 == t440)) else (some false)) else (some false)) else (some false)) else (some false)) else (some false))))))))) = some r := H
        have A15 := Aside0.mk A150
        clear A150
        replace H := Option.bind_eq_some_iff.mp H
        obtain ⟨t442, A160, H⟩ := H
        replace H : ((laws_stars.f kj2 4 t442).bind fun t443 => ((impl_Due.f t443 a1_0 a1_1 a1_2 0 0 0).bind fun bt444 => ((spec_Month.f a0).bind fun t446 => ((spec_Lower.f t446).bind fun t447 => ((laws_stars.f kj2 4 t447).bind fun t448 => ((impl_Due.f t448 a1_0 a1_1 a1_2 0 0 0).bind fun bt449 => (if t441 = true then (if bt444.2 = true then (if bt449.2 = true then (if (t440 == (a1_1 == a0)) = true then (if (bt444.1 == t440) = true then (some (bt449.1 == t440)) else (some false)) else (some false)) else (some false)) else (some false)) else (some false)))))))) = some r := H
        have A16 := Aside0.mk A160
        clear A160
        replace H := Option.bind_eq_some_iff.mp H
        obtain ⟨t443, A170, H⟩ := H
        replace H : ((impl_Due.f t443 a1_0 a1_1 a1_2 0 0 0).bind fun bt444 => ((spec_Month.f a0).bind fun t446 => ((spec_Lower.f t446).bind fun t447 => ((laws_stars.f kj2 4 t447).bind fun t448 => ((impl_Due.f t448 a1_0 a1_1 a1_2 0 0 0).bind fun bt449 => (if t441 = true then (if bt444.2 = true then (if bt449.2 = true then (if (t440 == (a1_1 == a0)) = true then (if (bt444.1 == t440) = true then (some (bt449.1 == t440)) else (some false)) else (some false)) else (some false)) else (some false)) else (some false))))))) = some r := H
        have A17 := Aside0.mk A170
        clear A170
        replace H := Option.bind_eq_some_iff.mp H
        obtain ⟨⟨t444, t445⟩, A180, H⟩ := H
        replace H : ((spec_Month.f a0).bind fun t446 => ((spec_Lower.f t446).bind fun t447 => ((laws_stars.f kj2 4 t447).bind fun t448 => ((impl_Due.f t448 a1_0 a1_1 a1_2 0 0 0).bind fun bt449 => (if t441 = true then (if t445 = true then (if bt449.2 = true then (if (t440 == (a1_1 == a0)) = true then (if (t444 == t440) = true then (some (bt449.1 == t440)) else (some false)) else (some false)) else (some false)) else (some false)) else (some false)))))) = some r := H
        have A18 := Aside0.mk A180
        clear A180
        replace H := Option.bind_eq_some_iff.mp H
        obtain ⟨t446, A190, H⟩ := H
        replace H : ((spec_Lower.f t446).bind fun t447 => ((laws_stars.f kj2 4 t447).bind fun t448 => ((impl_Due.f t448 a1_0 a1_1 a1_2 0 0 0).bind fun bt449 => (if t441 = true then (if t445 = true then (if bt449.2 = true then (if (t440 == (a1_1 == a0)) = true then (if (t444 == t440) = true then (some (bt449.1 == t440)) else (some false)) else (some false)) else (some false)) else (some false)) else (some false))))) = some r := H
        have A19 := Aside0.mk A190
        clear A190
        replace H := Option.bind_eq_some_iff.mp H
        obtain ⟨t447, A200, H⟩ := H
        replace H : ((laws_stars.f kj2 4 t447).bind fun t448 => ((impl_Due.f t448 a1_0 a1_1 a1_2 0 0 0).bind fun bt449 => (if t441 = true then (if t445 = true then (if bt449.2 = true then (if (t440 == (a1_1 == a0)) = true then (if (t444 == t440) = true then (some (bt449.1 == t440)) else (some false)) else (some false)) else (some false)) else (some false)) else (some false)))) = some r := H
        have A20 := Aside0.mk A200
        clear A200
        replace H := Option.bind_eq_some_iff.mp H
        obtain ⟨t448, A210, H⟩ := H
        replace H : ((impl_Due.f t448 a1_0 a1_1 a1_2 0 0 0).bind fun bt449 => (if t441 = true then (if t445 = true then (if bt449.2 = true then (if (t440 == (a1_1 == a0)) = true then (if (t444 == t440) = true then (some (bt449.1 == t440)) else (some false)) else (some false)) else (some false)) else (some false)) else (some false))) = some r := H
        have A21 := Aside0.mk A210
        clear A210
        replace H := Option.bind_eq_some_iff.mp H
        obtain ⟨⟨t449, t450⟩, A220, H⟩ := H
        replace H : (if t441 = true then (if t445 = true then (if t450 = true then (if (t440 == (a1_1 == a0)) = true then (if (t444 == t440) = true then (some (t449 == t440)) else (some false)) else (some false)) else (some false)) else (some false)) else (some false)) = some r := H
        have A22 := Aside0.mk A220
        clear A220
        by_cases c23 : t441 = true
        · subst c23
          have H1 : (if t445 = true then (if t450 = true then (if (t440 == (a1_1 == a0)) = true then (if (t444 == t440) = true then (some (t449 == t440)) else (some false)) else (some false)) else (some false)) else (some false)) = some r := by rw [if_pos rfl] at H; exact H
          clear H
          have H := H1
          clear H1
          by_cases c24 : t445 = true
          · subst c24
            have H1 : (if t450 = true then (if (t440 == (a1_1 == a0)) = true then (if (t444 == t440) = true then (some (t449 == t440)) else (some false)) else (some false)) else (some false)) = some r := by rw [if_pos rfl] at H; exact H
            clear H
            have H := H1
            clear H1
            by_cases c25 : t450 = true
            · subst c25
              have H1 : (if (t440 == (a1_1 == a0)) = true then (if (t444 == t440) = true then (some (t449 == t440)) else (some false)) else (some false)) = some r := by rw [if_pos rfl] at H; exact H
              clear H
              have H := H1
              clear H1
              by_cases c26 : (t440 == (a1_1 == a0)) = true
              · rw [if_pos c26] at H
                have c26b0 : (t440 == (a1_1 == a0)) = true := c26
                (try (have c26b1 : decide (t440 = (a1_1 == a0)) = true := by simpa using c26))
                (try (have c26b2 : (t440 == (a1_1 == a0)) = true := by simpa using c26))
                clear c26
                by_cases c27 : (t444 == t440) = true
                · rw [if_pos c27] at H
                  have c27b0 : (t444 == t440) = true := c27
                  (try (have c27b1 : decide (t444 = t440) = true := by simpa using c27))
                  (try (have c27b2 : (t444 == t440) = true := by simpa using c27))
                  clear c27
                  obtain rfl := Option.some.inj H
                  have hcz28_0 : wc.cell? ⟨gb430, 0, none⟩ = some (.int .i64 a1_0) := (blk_cell BK430.out 0).trans rfl
                  have hcz28_1 : wc.cell? ⟨gb430, 1, none⟩ = some (.int .i64 a1_1) := (blk_cell BK430.out 1).trans rfl
                  have hcz28_2 : wc.cell? ⟨gb430, 2, none⟩ = some (.int .i64 a1_2) := (blk_cell BK430.out 2).trans rfl
                  have hcz28_3 : wc.cell? ⟨gb430, 3, none⟩ = some (.int .i64 a1_3) := (blk_cell BK430.out 3).trans rfl
                  have hcz28_4 : wc.cell? ⟨gb430, 4, none⟩ = some (.int .i64 a1_4) := (blk_cell BK430.out 4).trans rfl
                  have hcz28_5 : wc.cell? ⟨gb430, 5, none⟩ = some (.int .i64 a1_5) := (blk_cell BK430.out 5).trans rfl
                  have hfz28_0 := blk_frozen BK430.out 0
                  have hfz28_1 := blk_frozen BK430.out 1
                  have hfz28_2 := blk_frozen BK430.out 2
                  have hfz28_3 := blk_frozen BK430.out 3
                  have hfz28_4 := blk_frozen BK430.out 4
                  have hfz28_5 := blk_frozen BK430.out 5
                  try go_wp2
                  have n0_ : Aside0 ((((wc.setCell ⟨gb430, 3, none⟩ (.int .i64 0)).setCell ⟨gb430, 4, none⟩ (.int .i64 0)).setCell ⟨gb430, 5, none⟩ (.int .i64 0)).heap[gb430]? = some (.cells #[.int .i64 a1_0, .int .i64 a1_1, .int .i64 a1_2, .int .i64 0, .int .i64 0, .int .i64 0] 23 (0, 0))) := ⟨by (with_reducible repeat (first | refine blk_drewN ?_ _ | refine blk_drew ?_ | refine blk_alloc ?_ _)); refine blk_put (cs := #[.int .i64 a1_0, .int .i64 a1_1, .int .i64 a1_2, .int .i64 0, .int .i64 0, .int .i64 a1_5]) ?_ 5 _ rfl; (with_reducible repeat (first | refine blk_drewN ?_ _ | refine blk_drew ?_ | refine blk_alloc ?_ _)); refine blk_put (cs := #[.int .i64 a1_0, .int .i64 a1_1, .int .i64 a1_2, .int .i64 0, .int .i64 a1_4, .int .i64 a1_5]) ?_ 4 _ rfl; (with_reducible repeat (first | refine blk_drewN ?_ _ | refine blk_drew ?_ | refine blk_alloc ?_ _)); refine blk_put (cs := #[.int .i64 a1_0, .int .i64 a1_1, .int .i64 a1_2, .int .i64 a1_3, .int .i64 a1_4, .int .i64 a1_5]) ?_ 3 _ rfl; (with_reducible repeat (first | refine blk_drewN ?_ _ | refine blk_drew ?_ | refine blk_alloc ?_ _)); exact BK430.out⟩
                  have n1_ : Aside0 (Below w.heap.size w (((wc.setCell ⟨gb430, 3, none⟩ (.int .i64 0)).setCell ⟨gb430, 4, none⟩ (.int .i64 0)).setCell ⟨gb430, 5, none⟩ (.int .i64 0))) := ⟨by repeat (first | (with_reducible first | exact HB.out | apply below_alloc | apply pw_below_drewN | apply below_drew1 | refine below_set ?_ GE430.out) | exact HB.out)⟩
                  (try clear BK430)
                  (try clear HB)
                  generalize (((wc.setCell ⟨gb430, 3, none⟩ (.int .i64 0)).setCell ⟨gb430, 4, none⟩ (.int .i64 0)).setCell ⟨gb430, 5, none⟩ (.int .i64 0)) = w29 at n0_ n1_ ⊢
                  have BK430 := n0_
                  have HB := n1_
                  clear n0_ n1_
                  have n0_ := Aside0.mk (blk_drew BK430.out)
                  have n1_ := Aside0.mk (below_drew1 HB.out)
                  clear BK430
                  clear HB
                  have BK430 := n0_
                  have HB := n1_
                  clear n0_ n1_
                  refine start_ (n := 10) (S := fun w' => w'.cell? ⟨gb430, 0, none⟩ = some (.int .i64 a1_0) ∧ w'.cell? ⟨gb430, 1, none⟩ = some (.int .i64 a1_1) ∧ w'.cell? ⟨gb430, 2, none⟩ = some (.int .i64 a1_2) ∧ w'.cell? ⟨gb430, 3, none⟩ = some (.int .i64 0) ∧ w'.cell? ⟨gb430, 4, none⟩ = some (.int .i64 0) ∧ w'.cell? ⟨gb430, 5, none⟩ = some (.int .i64 0)) (ds := []) #[false, false, false, false, false, false, false, false, false, false] (by kernel_rfl) rfl rfl ⟨(blk_cell BK430.out 0).trans rfl, (blk_cell BK430.out 1).trans rfl, (blk_cell BK430.out 2).trans rfl, (blk_cell BK430.out 3).trans rfl, (blk_cell BK430.out 4).trans rfl, (blk_cell BK430.out 5).trans rfl⟩ (fun hHeld => ?_); refine with_tabW laws_FnMonthNames.tab4 laws_FnMonthNames.bits4 (fun HT_ HW_ => ?_)
                  generalize w29.drew = w30 at BK430 HB hHeld ⊢
                  refine pure_ (i := 0) (N := some 27) (v := ?_) (a' := ?_) #[true, false, false, false, false, false, false, false, false, false] rfl rfl (any_of HT_.out (by kernel_rfl)) (fun _ _ _ h => h) (Or.inl ⟨by rfl, ?_⟩) ?_ ?_
                  rotate_left
                  · intro w'
                    go_simp
                    with_reducible rfl
                  rotate_left
                  · simp only [Act.put, List.setIfInBounds_toArray, List.set_cons_zero, List.set_cons_succ, i64_w, i32_w]
                    rfl
                  refine take_ (i := 3) (N := some 30) (v := ?_) (a' := ?_) #[true, false, false, true, false, false, false, false, false, false] rfl rfl (take_ofW HT_.out HW_.out (by kernel_rfl)) (fun _ _ _ h => h) (Or.inl ⟨by rfl, ?_⟩) hHeld ?_ ?_
                  rotate_left
                  · rintro w' ⟨s0, s1, s2, s3, s4, s5⟩
                    go_simp
                    with_reducible rfl
                  rotate_left
                  · simp only [Act.put, List.setIfInBounds_toArray, List.set_cons_zero, List.set_cons_succ, i64_w, i32_w]
                    rfl
                  refine one_ (i := 1) (N := some 28) #[true, true, false, true, false, false, false, false, false, false] rfl rfl (one_of HT_.out (by kernel_rfl)) (by decide) (fun K hK => ?_)
                  refine goes_ Tryz.func16 (by kernel_rfl) rfl #[.int .i64 a0] (by rfl) rfl rfl (by (try simp only [List.map_toArray, List.map_cons, List.map_nil]); first | done | rfl | (simp only [List.length_drop, List.length_take]; rfl)) ?_
                  with_reducible refine (spec_Decimal.calls kj2 a0 t438 _ A13.out).mono ?_
                  rintro e w' ⟨rfl, ⟨nd, rfl⟩⟩
                  refine ⟨_, rfl, ?_⟩
                  refine hK.out _ _ ⟨(blk_cell BK430.out 0).trans rfl, (blk_cell BK430.out 1).trans rfl, (blk_cell BK430.out 2).trans rfl, (blk_cell BK430.out 3).trans rfl, (blk_cell BK430.out 4).trans rfl, (blk_cell BK430.out 5).trans rfl⟩ (fun hHeld => ?_)
                  clear hK K
                  refine norm_ (a' := ?_) ?_ ?_
                  rotate_left
                  · show Act.put _ (some 28) _ = _
                    simp only [Act.put, List.setIfInBounds_toArray, List.set_cons_zero, List.set_cons_succ, i64_w, i32_w]
                    rfl
                  refine one_ (i := 2) (N := some 29) #[true, true, true, true, false, false, false, false, false, false] rfl rfl (one_of HT_.out (by kernel_rfl)) (by decide) (fun K hK => ?_)
                  refine goes_ Tryz.func15 (by kernel_rfl) rfl #[.int .i64 4, .string t438] (by rfl) rfl rfl (by (try simp only [List.map_toArray, List.map_cons, List.map_nil]); first | done | rfl | (simp only [List.length_drop, List.length_take]; rfl)) ?_
                  with_reducible refine (laws_stars.calls kj2 4 t438 t439 _ A14.out).mono ?_
                  rintro e w' ⟨rfl, ⟨nd, rfl⟩⟩
                  refine ⟨_, rfl, ?_⟩
                  refine hK.out _ _ ⟨(blk_cell BK430.out 0).trans rfl, (blk_cell BK430.out 1).trans rfl, (blk_cell BK430.out 2).trans rfl, (blk_cell BK430.out 3).trans rfl, (blk_cell BK430.out 4).trans rfl, (blk_cell BK430.out 5).trans rfl⟩ (fun hHeld => ?_)
                  clear hK K
                  refine norm_ (a' := ?_) ?_ ?_
                  rotate_left
                  · show Act.put _ (some 29) _ = _
                    simp only [Act.put, List.setIfInBounds_toArray, List.set_cons_zero, List.set_cons_succ, i64_w, i32_w]
                    rfl
                  refine one_ (i := 4) (N := some 31) #[true, true, true, true, true, false, false, false, false, false] rfl rfl (one_of HT_.out (by kernel_rfl)) (by decide) (fun K hK => ?_)
                  refine goes_ Tryz.func24 (by kernel_rfl) rfl #[.string t439, .agg #[.int .i64 a1_0, .int .i64 a1_1, .int .i64 a1_2, .int .i64 0, .int .i64 0, .int .i64 0]] (by rfl) rfl rfl (by (try simp only [List.map_toArray, List.map_cons, List.map_nil]); first | done | rfl | (simp only [List.length_drop, List.length_take]; rfl)) ?_
                  with_reducible refine (impl_Due.calls t439 a1_0 a1_1 a1_2 0 0 0 t440 true _ A15.out).mono ?_
                  rintro e w31 ⟨rfl, hb⟩
                  refine ⟨_, rfl, ?_⟩
                  have n0_ := Aside0.mk (blk_below (g := gb430) (o := .cells #[.int .i64 a1_0, .int .i64 a1_1, .int .i64 a1_2, .int .i64 0, .int .i64 0, .int .i64 0] 23 (0, 0)) (by (with_reducible repeat (first | refine blk_drewN ?_ _ | refine blk_drew ?_ | refine blk_alloc ?_ _)); exact BK430.out) hb)
                  have n1_ := Aside0.mk (below_step (by repeat (first | (with_reducible first | exact HB.out | apply below_alloc | apply pw_below_drewN | apply below_drew1 | refine below_set ?_ GE430.out) | exact HB.out)) hb)
                  clear BK430
                  clear HB
                  have BK430 := n0_
                  have HB := n1_
                  clear n0_ n1_
                  (try clear hb)
                  (try clear hb2)
                  (try clear hk)
                  (try clear hi)
                  refine hK.out _ _ ⟨(blk_cell BK430.out 0).trans rfl, (blk_cell BK430.out 1).trans rfl, (blk_cell BK430.out 2).trans rfl, (blk_cell BK430.out 3).trans rfl, (blk_cell BK430.out 4).trans rfl, (blk_cell BK430.out 5).trans rfl⟩ (fun hHeld => ?_)
                  clear hK K
                  refine norm_ (a' := ?_) ?_ ?_
                  rotate_left
                  · show Act.put _ (some 31) _ = _
                    simp only [Act.put, List.setIfInBounds_toArray, List.set_cons_zero, List.set_cons_succ, i64_w, i32_w]
                    rfl
                  refine pure_ (i := 5) (N := some 26) (v := ?_) (a' := ?_) #[true, true, true, true, true, true, false, false, false, false] rfl rfl (any_of HT_.out (by kernel_rfl)) (fun _ _ _ h => h) (Or.inl ⟨by rfl, ?_⟩) ?_ ?_
                  rotate_left
                  · intro w'
                    go_simp
                    with_reducible rfl
                  rotate_left
                  · simp only [Act.put, List.setIfInBounds_toArray, List.set_cons_zero, List.set_cons_succ, i64_w, i32_w]
                    rfl
                  refine pure_ (i := 6) (N := some 32) (v := ?_) (a' := ?_) #[true, true, true, true, true, true, true, false, false, false] rfl rfl (any_of HT_.out (by kernel_rfl)) (fun _ _ _ h => h) (Or.inl ⟨by rfl, ?_⟩) ?_ ?_
                  rotate_left
                  · intro w'
                    go_simp
                    with_reducible rfl
                  rotate_left
                  · simp only [Act.put, List.setIfInBounds_toArray, List.set_cons_zero, List.set_cons_succ, i64_w, i32_w]
                    rfl
                  refine pure_ (i := 7) (N := some 33) (v := ?_) (a' := ?_) #[true, true, true, true, true, true, true, true, false, false] rfl rfl (any_of HT_.out (by kernel_rfl)) (fun _ _ _ h => h) (Or.inl ⟨by rfl, ?_⟩) ?_ ?_
                  rotate_left
                  · intro w'
                    go_simp
                    with_reducible rfl
                  rotate_left
                  · simp only [Act.put, List.setIfInBounds_toArray, List.set_cons_zero, List.set_cons_succ, i64_w, i32_w]
                    rfl
                  refine pure_ (i := 8) (N := some 5) (v := ?_) (a' := ?_) #[true, true, true, true, true, true, true, true, true, false] rfl rfl (any_of HT_.out (by kernel_rfl)) (fun _ _ _ h => h) (Or.inl ⟨by rfl, ?_⟩) ?_ ?_
                  rotate_left
                  · intro w'
                    go_simp
                    with_reducible rfl
                  rotate_left
                  · simp only [Act.put, List.setIfInBounds_toArray, List.set_cons_zero, List.set_cons_succ, i64_w, i32_w]
                    rfl
                  refine pure_ (i := 9) (N := some 6) (v := ?_) (a' := ?_) #[true, true, true, true, true, true, true, true, true, true] rfl rfl (any_of HT_.out (by kernel_rfl)) (fun _ _ _ h => h) (Or.inl ⟨by rfl, ?_⟩) ?_ ?_
                  rotate_left
                  · intro w'
                    go_simp
                    with_reducible rfl
                  rotate_left
                  · simp only [Act.put, List.setIfInBounds_toArray, List.set_cons_zero, List.set_cons_succ, i64_w, i32_w]
                    rfl
                  refine done_ (done_of HT_.out (by kernel_rfl)) ?_
                  try go_wp2
                  have n0_ := Aside0.mk (blk_drew BK430.out)
                  have n1_ := Aside0.mk (below_drew1 HB.out)
                  clear BK430
                  clear HB
                  have BK430 := n0_
                  have HB := n1_
                  clear n0_ n1_
                  refine start_ (n := 10) (S := fun w' => w'.cell? ⟨gb430, 0, none⟩ = some (.int .i64 a1_0) ∧ w'.cell? ⟨gb430, 1, none⟩ = some (.int .i64 a1_1) ∧ w'.cell? ⟨gb430, 2, none⟩ = some (.int .i64 a1_2) ∧ w'.cell? ⟨gb430, 3, none⟩ = some (.int .i64 0) ∧ w'.cell? ⟨gb430, 4, none⟩ = some (.int .i64 0) ∧ w'.cell? ⟨gb430, 5, none⟩ = some (.int .i64 0)) (ds := []) #[false, false, false, false, false, false, false, false, false, false] (by kernel_rfl) rfl rfl ⟨(blk_cell BK430.out 0).trans rfl, (blk_cell BK430.out 1).trans rfl, (blk_cell BK430.out 2).trans rfl, (blk_cell BK430.out 3).trans rfl, (blk_cell BK430.out 4).trans rfl, (blk_cell BK430.out 5).trans rfl⟩ (fun hHeld => ?_); refine with_tabW laws_FnMonthNames.tab5 laws_FnMonthNames.bits5 (fun HT_ HW_ => ?_)
                  generalize w31.drew = w32 at BK430 HB hHeld ⊢
                  refine pure_ (i := 0) (N := some 35) (v := ?_) (a' := ?_) #[true, false, false, false, false, false, false, false, false, false] rfl rfl (any_of HT_.out (by kernel_rfl)) (fun _ _ _ h => h) (Or.inl ⟨by rfl, ?_⟩) ?_ ?_
                  rotate_left
                  · intro w'
                    go_simp
                    with_reducible rfl
                  rotate_left
                  · simp only [Act.put, List.setIfInBounds_toArray, List.set_cons_zero, List.set_cons_succ, i64_w, i32_w]
                    rfl
                  refine take_ (i := 3) (N := some 38) (v := ?_) (a' := ?_) #[true, false, false, true, false, false, false, false, false, false] rfl rfl (take_ofW HT_.out HW_.out (by kernel_rfl)) (fun _ _ _ h => h) (Or.inl ⟨by rfl, ?_⟩) hHeld ?_ ?_
                  rotate_left
                  · rintro w' ⟨s0, s1, s2, s3, s4, s5⟩
                    go_simp
                    with_reducible rfl
                  rotate_left
                  · simp only [Act.put, List.setIfInBounds_toArray, List.set_cons_zero, List.set_cons_succ, i64_w, i32_w]
                    rfl
                  refine one_ (i := 1) (N := some 36) #[true, true, false, true, false, false, false, false, false, false] rfl rfl (one_of HT_.out (by kernel_rfl)) (by decide) (fun K hK => ?_)
                  refine goes_ Tryz.func30 (by kernel_rfl) rfl #[.int .i64 a0] (by rfl) rfl rfl (by (try simp only [List.map_toArray, List.map_cons, List.map_nil]); first | done | rfl | (simp only [List.length_drop, List.length_take]; rfl)) ?_
                  with_reducible refine (spec_Month.calls a0 t442 _ A16.out).mono ?_
                  rintro e w' ⟨rfl, ⟨nd, rfl⟩⟩
                  refine ⟨_, rfl, ?_⟩
                  refine hK.out _ _ ⟨(blk_cell BK430.out 0).trans rfl, (blk_cell BK430.out 1).trans rfl, (blk_cell BK430.out 2).trans rfl, (blk_cell BK430.out 3).trans rfl, (blk_cell BK430.out 4).trans rfl, (blk_cell BK430.out 5).trans rfl⟩ (fun hHeld => ?_)
                  clear hK K
                  refine norm_ (a' := ?_) ?_ ?_
                  rotate_left
                  · show Act.put _ (some 36) _ = _
                    simp only [Act.put, List.setIfInBounds_toArray, List.set_cons_zero, List.set_cons_succ, i64_w, i32_w]
                    rfl
                  refine one_ (i := 2) (N := some 37) #[true, true, true, true, false, false, false, false, false, false] rfl rfl (one_of HT_.out (by kernel_rfl)) (by decide) (fun K hK => ?_)
                  refine goes_ Tryz.func15 (by kernel_rfl) rfl #[.int .i64 4, .string t442] (by rfl) rfl rfl (by (try simp only [List.map_toArray, List.map_cons, List.map_nil]); first | done | rfl | (simp only [List.length_drop, List.length_take]; rfl)) ?_
                  with_reducible refine (laws_stars.calls kj2 4 t442 t443 _ A17.out).mono ?_
                  rintro e w' ⟨rfl, ⟨nd, rfl⟩⟩
                  refine ⟨_, rfl, ?_⟩
                  refine hK.out _ _ ⟨(blk_cell BK430.out 0).trans rfl, (blk_cell BK430.out 1).trans rfl, (blk_cell BK430.out 2).trans rfl, (blk_cell BK430.out 3).trans rfl, (blk_cell BK430.out 4).trans rfl, (blk_cell BK430.out 5).trans rfl⟩ (fun hHeld => ?_)
                  clear hK K
                  refine norm_ (a' := ?_) ?_ ?_
                  rotate_left
                  · show Act.put _ (some 37) _ = _
                    simp only [Act.put, List.setIfInBounds_toArray, List.set_cons_zero, List.set_cons_succ, i64_w, i32_w]
                    rfl
                  refine one_ (i := 4) (N := some 39) #[true, true, true, true, true, false, false, false, false, false] rfl rfl (one_of HT_.out (by kernel_rfl)) (by decide) (fun K hK => ?_)
                  refine goes_ Tryz.func24 (by kernel_rfl) rfl #[.string t443, .agg #[.int .i64 a1_0, .int .i64 a1_1, .int .i64 a1_2, .int .i64 0, .int .i64 0, .int .i64 0]] (by rfl) rfl rfl (by (try simp only [List.map_toArray, List.map_cons, List.map_nil]); first | done | rfl | (simp only [List.length_drop, List.length_take]; rfl)) ?_
                  with_reducible refine (impl_Due.calls t443 a1_0 a1_1 a1_2 0 0 0 t444 true _ A18.out).mono ?_
                  rintro e w33 ⟨rfl, hb⟩
                  refine ⟨_, rfl, ?_⟩
                  have n0_ := Aside0.mk (blk_below (g := gb430) (o := .cells #[.int .i64 a1_0, .int .i64 a1_1, .int .i64 a1_2, .int .i64 0, .int .i64 0, .int .i64 0] 23 (0, 0)) (by (with_reducible repeat (first | refine blk_drewN ?_ _ | refine blk_drew ?_ | refine blk_alloc ?_ _)); exact BK430.out) hb)
                  have n1_ := Aside0.mk (below_step (by repeat (first | (with_reducible first | exact HB.out | apply below_alloc | apply pw_below_drewN | apply below_drew1 | refine below_set ?_ GE430.out) | exact HB.out)) hb)
                  clear BK430
                  clear HB
                  have BK430 := n0_
                  have HB := n1_
                  clear n0_ n1_
                  (try clear hb)
                  (try clear hb2)
                  (try clear hk)
                  (try clear hi)
                  refine hK.out _ _ ⟨(blk_cell BK430.out 0).trans rfl, (blk_cell BK430.out 1).trans rfl, (blk_cell BK430.out 2).trans rfl, (blk_cell BK430.out 3).trans rfl, (blk_cell BK430.out 4).trans rfl, (blk_cell BK430.out 5).trans rfl⟩ (fun hHeld => ?_)
                  clear hK K
                  refine norm_ (a' := ?_) ?_ ?_
                  rotate_left
                  · show Act.put _ (some 39) _ = _
                    simp only [Act.put, List.setIfInBounds_toArray, List.set_cons_zero, List.set_cons_succ, i64_w, i32_w]
                    rfl
                  refine pure_ (i := 5) (N := some 34) (v := ?_) (a' := ?_) #[true, true, true, true, true, true, false, false, false, false] rfl rfl (any_of HT_.out (by kernel_rfl)) (fun _ _ _ h => h) (Or.inl ⟨by rfl, ?_⟩) ?_ ?_
                  rotate_left
                  · intro w'
                    go_simp
                    with_reducible rfl
                  rotate_left
                  · simp only [Act.put, List.setIfInBounds_toArray, List.set_cons_zero, List.set_cons_succ, i64_w, i32_w]
                    rfl
                  refine pure_ (i := 6) (N := some 40) (v := ?_) (a' := ?_) #[true, true, true, true, true, true, true, false, false, false] rfl rfl (any_of HT_.out (by kernel_rfl)) (fun _ _ _ h => h) (Or.inl ⟨by rfl, ?_⟩) ?_ ?_
                  rotate_left
                  · intro w'
                    go_simp
                    with_reducible rfl
                  rotate_left
                  · simp only [Act.put, List.setIfInBounds_toArray, List.set_cons_zero, List.set_cons_succ, i64_w, i32_w]
                    rfl
                  refine pure_ (i := 7) (N := some 41) (v := ?_) (a' := ?_) #[true, true, true, true, true, true, true, true, false, false] rfl rfl (any_of HT_.out (by kernel_rfl)) (fun _ _ _ h => h) (Or.inl ⟨by rfl, ?_⟩) ?_ ?_
                  rotate_left
                  · intro w'
                    go_simp
                    with_reducible rfl
                  rotate_left
                  · simp only [Act.put, List.setIfInBounds_toArray, List.set_cons_zero, List.set_cons_succ, i64_w, i32_w]
                    rfl
                  refine pure_ (i := 8) (N := some 7) (v := ?_) (a' := ?_) #[true, true, true, true, true, true, true, true, true, false] rfl rfl (any_of HT_.out (by kernel_rfl)) (fun _ _ _ h => h) (Or.inl ⟨by rfl, ?_⟩) ?_ ?_
                  rotate_left
                  · intro w'
                    go_simp
                    with_reducible rfl
                  rotate_left
                  · simp only [Act.put, List.setIfInBounds_toArray, List.set_cons_zero, List.set_cons_succ, i64_w, i32_w]
                    rfl
                  refine pure_ (i := 9) (N := some 8) (v := ?_) (a' := ?_) #[true, true, true, true, true, true, true, true, true, true] rfl rfl (any_of HT_.out (by kernel_rfl)) (fun _ _ _ h => h) (Or.inl ⟨by rfl, ?_⟩) ?_ ?_
                  rotate_left
                  · intro w'
                    go_simp
                    with_reducible rfl
                  rotate_left
                  · simp only [Act.put, List.setIfInBounds_toArray, List.set_cons_zero, List.set_cons_succ, i64_w, i32_w]
                    rfl
                  refine done_ (done_of HT_.out (by kernel_rfl)) ?_
                  try go_wp2
                  have n0_ := Aside0.mk (blk_drew BK430.out)
                  have n1_ := Aside0.mk (below_drew1 HB.out)
                  clear BK430
                  clear HB
                  have BK430 := n0_
                  have HB := n1_
                  clear n0_ n1_
                  refine start_ (n := 11) (S := fun w' => w'.cell? ⟨gb430, 0, none⟩ = some (.int .i64 a1_0) ∧ w'.cell? ⟨gb430, 1, none⟩ = some (.int .i64 a1_1) ∧ w'.cell? ⟨gb430, 2, none⟩ = some (.int .i64 a1_2) ∧ w'.cell? ⟨gb430, 3, none⟩ = some (.int .i64 0) ∧ w'.cell? ⟨gb430, 4, none⟩ = some (.int .i64 0) ∧ w'.cell? ⟨gb430, 5, none⟩ = some (.int .i64 0)) (ds := []) #[false, false, false, false, false, false, false, false, false, false, false] (by kernel_rfl) rfl rfl ⟨(blk_cell BK430.out 0).trans rfl, (blk_cell BK430.out 1).trans rfl, (blk_cell BK430.out 2).trans rfl, (blk_cell BK430.out 3).trans rfl, (blk_cell BK430.out 4).trans rfl, (blk_cell BK430.out 5).trans rfl⟩ (fun hHeld => ?_); refine with_tabW laws_FnMonthNames.tab6 laws_FnMonthNames.bits6 (fun HT_ HW_ => ?_)
                  generalize w33.drew = w34 at BK430 HB hHeld ⊢
                  refine pure_ (i := 0) (N := some 43) (v := ?_) (a' := ?_) #[true, false, false, false, false, false, false, false, false, false, false] rfl rfl (any_of HT_.out (by kernel_rfl)) (fun _ _ _ h => h) (Or.inl ⟨by rfl, ?_⟩) ?_ ?_
                  rotate_left
                  · intro w'
                    go_simp
                    with_reducible rfl
                  rotate_left
                  · simp only [Act.put, List.setIfInBounds_toArray, List.set_cons_zero, List.set_cons_succ, i64_w, i32_w]
                    rfl
                  refine take_ (i := 4) (N := some 47) (v := ?_) (a' := ?_) #[true, false, false, false, true, false, false, false, false, false, false] rfl rfl (take_ofW HT_.out HW_.out (by kernel_rfl)) (fun _ _ _ h => h) (Or.inl ⟨by rfl, ?_⟩) hHeld ?_ ?_
                  rotate_left
                  · rintro w' ⟨s0, s1, s2, s3, s4, s5⟩
                    go_simp
                    with_reducible rfl
                  rotate_left
                  · simp only [Act.put, List.setIfInBounds_toArray, List.set_cons_zero, List.set_cons_succ, i64_w, i32_w]
                    rfl
                  refine one_ (i := 1) (N := some 44) #[true, true, false, false, true, false, false, false, false, false, false] rfl rfl (one_of HT_.out (by kernel_rfl)) (by decide) (fun K hK => ?_)
                  refine goes_ Tryz.func30 (by kernel_rfl) rfl #[.int .i64 a0] (by rfl) rfl rfl (by (try simp only [List.map_toArray, List.map_cons, List.map_nil]); first | done | rfl | (simp only [List.length_drop, List.length_take]; rfl)) ?_
                  with_reducible refine (spec_Month.calls a0 t446 _ A19.out).mono ?_
                  rintro e w' ⟨rfl, ⟨nd, rfl⟩⟩
                  refine ⟨_, rfl, ?_⟩
                  refine hK.out _ _ ⟨(blk_cell BK430.out 0).trans rfl, (blk_cell BK430.out 1).trans rfl, (blk_cell BK430.out 2).trans rfl, (blk_cell BK430.out 3).trans rfl, (blk_cell BK430.out 4).trans rfl, (blk_cell BK430.out 5).trans rfl⟩ (fun hHeld => ?_)
                  clear hK K
                  refine norm_ (a' := ?_) ?_ ?_
                  rotate_left
                  · show Act.put _ (some 44) _ = _
                    simp only [Act.put, List.setIfInBounds_toArray, List.set_cons_zero, List.set_cons_succ, i64_w, i32_w]
                    rfl
                  refine one_ (i := 2) (N := some 45) #[true, true, true, false, true, false, false, false, false, false, false] rfl rfl (one_of HT_.out (by kernel_rfl)) (by decide) (fun K hK => ?_)
                  refine goes_ Tryz.func26 (by kernel_rfl) rfl #[.string t446] (by rfl) rfl rfl (by (try simp only [List.map_toArray, List.map_cons, List.map_nil]); first | done | rfl | (simp only [List.length_drop, List.length_take]; rfl)) ?_
                  with_reducible refine (spec_Lower.calls t446 t447 _ A20.out).mono ?_
                  rintro e w35 ⟨rfl, hb⟩
                  refine ⟨_, rfl, ?_⟩
                  have n0_ := Aside0.mk (blk_below (g := gb430) (o := .cells #[.int .i64 a1_0, .int .i64 a1_1, .int .i64 a1_2, .int .i64 0, .int .i64 0, .int .i64 0] 23 (0, 0)) (by (with_reducible repeat (first | refine blk_drewN ?_ _ | refine blk_drew ?_ | refine blk_alloc ?_ _)); exact BK430.out) hb)
                  have n1_ := Aside0.mk (below_step (by repeat (first | (with_reducible first | exact HB.out | apply below_alloc | apply pw_below_drewN | apply below_drew1 | refine below_set ?_ GE430.out) | exact HB.out)) hb)
                  clear BK430
                  clear HB
                  have BK430 := n0_
                  have HB := n1_
                  clear n0_ n1_
                  (try clear hb)
                  (try clear hb2)
                  (try clear hk)
                  (try clear hi)
                  refine hK.out _ _ ⟨(blk_cell BK430.out 0).trans rfl, (blk_cell BK430.out 1).trans rfl, (blk_cell BK430.out 2).trans rfl, (blk_cell BK430.out 3).trans rfl, (blk_cell BK430.out 4).trans rfl, (blk_cell BK430.out 5).trans rfl⟩ (fun hHeld => ?_)
                  clear hK K
                  refine norm_ (a' := ?_) ?_ ?_
                  rotate_left
                  · show Act.put _ (some 45) _ = _
                    simp only [Act.put, List.setIfInBounds_toArray, List.set_cons_zero, List.set_cons_succ, i64_w, i32_w]
                    rfl
                  refine one_ (i := 3) (N := some 46) #[true, true, true, true, true, false, false, false, false, false, false] rfl rfl (one_of HT_.out (by kernel_rfl)) (by decide) (fun K hK => ?_)
                  refine goes_ Tryz.func15 (by kernel_rfl) rfl #[.int .i64 4, .string t447] (by rfl) rfl rfl (by (try simp only [List.map_toArray, List.map_cons, List.map_nil]); first | done | rfl | (simp only [List.length_drop, List.length_take]; rfl)) ?_
                  with_reducible refine (laws_stars.calls kj2 4 t447 t448 _ A21.out).mono ?_
                  rintro e w' ⟨rfl, ⟨nd, rfl⟩⟩
                  refine ⟨_, rfl, ?_⟩
                  refine hK.out _ _ ⟨(blk_cell BK430.out 0).trans rfl, (blk_cell BK430.out 1).trans rfl, (blk_cell BK430.out 2).trans rfl, (blk_cell BK430.out 3).trans rfl, (blk_cell BK430.out 4).trans rfl, (blk_cell BK430.out 5).trans rfl⟩ (fun hHeld => ?_)
                  clear hK K
                  refine norm_ (a' := ?_) ?_ ?_
                  rotate_left
                  · show Act.put _ (some 46) _ = _
                    simp only [Act.put, List.setIfInBounds_toArray, List.set_cons_zero, List.set_cons_succ, i64_w, i32_w]
                    rfl
                  refine one_ (i := 5) (N := some 48) #[true, true, true, true, true, true, false, false, false, false, false] rfl rfl (one_of HT_.out (by kernel_rfl)) (by decide) (fun K hK => ?_)
                  refine goes_ Tryz.func24 (by kernel_rfl) rfl #[.string t448, .agg #[.int .i64 a1_0, .int .i64 a1_1, .int .i64 a1_2, .int .i64 0, .int .i64 0, .int .i64 0]] (by rfl) rfl rfl (by (try simp only [List.map_toArray, List.map_cons, List.map_nil]); first | done | rfl | (simp only [List.length_drop, List.length_take]; rfl)) ?_
                  with_reducible refine (impl_Due.calls t448 a1_0 a1_1 a1_2 0 0 0 t449 true _ A22.out).mono ?_
                  rintro e w36 ⟨rfl, hb⟩
                  refine ⟨_, rfl, ?_⟩
                  have n0_ := Aside0.mk (blk_below (g := gb430) (o := .cells #[.int .i64 a1_0, .int .i64 a1_1, .int .i64 a1_2, .int .i64 0, .int .i64 0, .int .i64 0] 23 (0, 0)) (by (with_reducible repeat (first | refine blk_drewN ?_ _ | refine blk_drew ?_ | refine blk_alloc ?_ _)); exact BK430.out) hb)
                  have n1_ := Aside0.mk (below_step (by repeat (first | (with_reducible first | exact HB.out | apply below_alloc | apply pw_below_drewN | apply below_drew1 | refine below_set ?_ GE430.out) | exact HB.out)) hb)
                  clear BK430
                  clear HB
                  have BK430 := n0_
                  have HB := n1_
                  clear n0_ n1_
                  (try clear hb)
                  (try clear hb2)
                  (try clear hk)
                  (try clear hi)
                  refine hK.out _ _ ⟨(blk_cell BK430.out 0).trans rfl, (blk_cell BK430.out 1).trans rfl, (blk_cell BK430.out 2).trans rfl, (blk_cell BK430.out 3).trans rfl, (blk_cell BK430.out 4).trans rfl, (blk_cell BK430.out 5).trans rfl⟩ (fun hHeld => ?_)
                  clear hK K
                  refine norm_ (a' := ?_) ?_ ?_
                  rotate_left
                  · show Act.put _ (some 48) _ = _
                    simp only [Act.put, List.setIfInBounds_toArray, List.set_cons_zero, List.set_cons_succ, i64_w, i32_w]
                    rfl
                  refine pure_ (i := 6) (N := some 42) (v := ?_) (a' := ?_) #[true, true, true, true, true, true, true, false, false, false, false] rfl rfl (any_of HT_.out (by kernel_rfl)) (fun _ _ _ h => h) (Or.inl ⟨by rfl, ?_⟩) ?_ ?_
                  rotate_left
                  · intro w'
                    go_simp
                    with_reducible rfl
                  rotate_left
                  · simp only [Act.put, List.setIfInBounds_toArray, List.set_cons_zero, List.set_cons_succ, i64_w, i32_w]
                    rfl
                  refine pure_ (i := 7) (N := some 49) (v := ?_) (a' := ?_) #[true, true, true, true, true, true, true, true, false, false, false] rfl rfl (any_of HT_.out (by kernel_rfl)) (fun _ _ _ h => h) (Or.inl ⟨by rfl, ?_⟩) ?_ ?_
                  rotate_left
                  · intro w'
                    go_simp
                    with_reducible rfl
                  rotate_left
                  · simp only [Act.put, List.setIfInBounds_toArray, List.set_cons_zero, List.set_cons_succ, i64_w, i32_w]
                    rfl
                  refine pure_ (i := 8) (N := some 50) (v := ?_) (a' := ?_) #[true, true, true, true, true, true, true, true, true, false, false] rfl rfl (any_of HT_.out (by kernel_rfl)) (fun _ _ _ h => h) (Or.inl ⟨by rfl, ?_⟩) ?_ ?_
                  rotate_left
                  · intro w'
                    go_simp
                    with_reducible rfl
                  rotate_left
                  · simp only [Act.put, List.setIfInBounds_toArray, List.set_cons_zero, List.set_cons_succ, i64_w, i32_w]
                    rfl
                  refine pure_ (i := 9) (N := some 9) (v := ?_) (a' := ?_) #[true, true, true, true, true, true, true, true, true, true, false] rfl rfl (any_of HT_.out (by kernel_rfl)) (fun _ _ _ h => h) (Or.inl ⟨by rfl, ?_⟩) ?_ ?_
                  rotate_left
                  · intro w'
                    go_simp
                    with_reducible rfl
                  rotate_left
                  · simp only [Act.put, List.setIfInBounds_toArray, List.set_cons_zero, List.set_cons_succ, i64_w, i32_w]
                    rfl
                  refine pure_ (i := 10) (N := some 10) (v := ?_) (a' := ?_) #[true, true, true, true, true, true, true, true, true, true, true] rfl rfl (any_of HT_.out (by kernel_rfl)) (fun _ _ _ h => h) (Or.inl ⟨by rfl, ?_⟩) ?_ ?_
                  rotate_left
                  · intro w'
                    go_simp
                    with_reducible rfl
                  rotate_left
                  · simp only [Act.put, List.setIfInBounds_toArray, List.set_cons_zero, List.set_cons_succ, i64_w, i32_w]
                    rfl
                  refine done_ (done_of HT_.out (by kernel_rfl)) ?_
                  have hcz37_0 : w36.cell? ⟨gb430, 0, none⟩ = some (.int .i64 a1_0) := (blk_cell BK430.out 0).trans rfl
                  have hcz37_1 : w36.cell? ⟨gb430, 1, none⟩ = some (.int .i64 a1_1) := (blk_cell BK430.out 1).trans rfl
                  have hcz37_2 : w36.cell? ⟨gb430, 2, none⟩ = some (.int .i64 a1_2) := (blk_cell BK430.out 2).trans rfl
                  have hcz37_3 : w36.cell? ⟨gb430, 3, none⟩ = some (.int .i64 0) := (blk_cell BK430.out 3).trans rfl
                  have hcz37_4 : w36.cell? ⟨gb430, 4, none⟩ = some (.int .i64 0) := (blk_cell BK430.out 4).trans rfl
                  have hcz37_5 : w36.cell? ⟨gb430, 5, none⟩ = some (.int .i64 0) := (blk_cell BK430.out 5).trans rfl
                  have hfz37_0 := blk_frozen BK430.out 0
                  have hfz37_1 := blk_frozen BK430.out 1
                  have hfz37_2 := blk_frozen BK430.out 2
                  have hfz37_3 := blk_frozen BK430.out 3
                  have hfz37_4 := blk_frozen BK430.out 4
                  have hfz37_5 := blk_frozen BK430.out 5
                  try go_wp2
                  go_ret
                  exact ⟨by first | rfl | (simp [errW_none, errW_some] <;> rfl) | (simp [*, errW_none, errW_some] <;> rfl), by repeat (first | (with_reducible first | exact HB.out | apply below_alloc | apply pw_below_drewN | apply below_drew1 | refine below_set ?_ GE430.out) | exact HB.out)⟩
                · rw [if_neg c27] at H
                  have c27b0 : (t444 == t440) = false := by simpa using c27
                  (try (have c27b1 : decide (t444 = t440) = false := by simpa using c27))
                  (try (have c27b2 : (t444 == t440) = false := by simpa using c27))
                  (try (have c27b3 : ¬ (t444 = t440) := by simpa using c27))
                  clear c27
                  obtain rfl := Option.some.inj H
                  have hcz38_0 : wc.cell? ⟨gb430, 0, none⟩ = some (.int .i64 a1_0) := (blk_cell BK430.out 0).trans rfl
                  have hcz38_1 : wc.cell? ⟨gb430, 1, none⟩ = some (.int .i64 a1_1) := (blk_cell BK430.out 1).trans rfl
                  have hcz38_2 : wc.cell? ⟨gb430, 2, none⟩ = some (.int .i64 a1_2) := (blk_cell BK430.out 2).trans rfl
                  have hcz38_3 : wc.cell? ⟨gb430, 3, none⟩ = some (.int .i64 a1_3) := (blk_cell BK430.out 3).trans rfl
                  have hcz38_4 : wc.cell? ⟨gb430, 4, none⟩ = some (.int .i64 a1_4) := (blk_cell BK430.out 4).trans rfl
                  have hcz38_5 : wc.cell? ⟨gb430, 5, none⟩ = some (.int .i64 a1_5) := (blk_cell BK430.out 5).trans rfl
                  have hfz38_0 := blk_frozen BK430.out 0
                  have hfz38_1 := blk_frozen BK430.out 1
                  have hfz38_2 := blk_frozen BK430.out 2
                  have hfz38_3 := blk_frozen BK430.out 3
                  have hfz38_4 := blk_frozen BK430.out 4
                  have hfz38_5 := blk_frozen BK430.out 5
                  try go_wp2
                  have n0_ : Aside0 ((((wc.setCell ⟨gb430, 3, none⟩ (.int .i64 0)).setCell ⟨gb430, 4, none⟩ (.int .i64 0)).setCell ⟨gb430, 5, none⟩ (.int .i64 0)).heap[gb430]? = some (.cells #[.int .i64 a1_0, .int .i64 a1_1, .int .i64 a1_2, .int .i64 0, .int .i64 0, .int .i64 0] 23 (0, 0))) := ⟨by (with_reducible repeat (first | refine blk_drewN ?_ _ | refine blk_drew ?_ | refine blk_alloc ?_ _)); refine blk_put (cs := #[.int .i64 a1_0, .int .i64 a1_1, .int .i64 a1_2, .int .i64 0, .int .i64 0, .int .i64 a1_5]) ?_ 5 _ rfl; (with_reducible repeat (first | refine blk_drewN ?_ _ | refine blk_drew ?_ | refine blk_alloc ?_ _)); refine blk_put (cs := #[.int .i64 a1_0, .int .i64 a1_1, .int .i64 a1_2, .int .i64 0, .int .i64 a1_4, .int .i64 a1_5]) ?_ 4 _ rfl; (with_reducible repeat (first | refine blk_drewN ?_ _ | refine blk_drew ?_ | refine blk_alloc ?_ _)); refine blk_put (cs := #[.int .i64 a1_0, .int .i64 a1_1, .int .i64 a1_2, .int .i64 a1_3, .int .i64 a1_4, .int .i64 a1_5]) ?_ 3 _ rfl; (with_reducible repeat (first | refine blk_drewN ?_ _ | refine blk_drew ?_ | refine blk_alloc ?_ _)); exact BK430.out⟩
                  have n1_ : Aside0 (Below w.heap.size w (((wc.setCell ⟨gb430, 3, none⟩ (.int .i64 0)).setCell ⟨gb430, 4, none⟩ (.int .i64 0)).setCell ⟨gb430, 5, none⟩ (.int .i64 0))) := ⟨by repeat (first | (with_reducible first | exact HB.out | apply below_alloc | apply pw_below_drewN | apply below_drew1 | refine below_set ?_ GE430.out) | exact HB.out)⟩
                  (try clear BK430)
                  (try clear HB)
                  generalize (((wc.setCell ⟨gb430, 3, none⟩ (.int .i64 0)).setCell ⟨gb430, 4, none⟩ (.int .i64 0)).setCell ⟨gb430, 5, none⟩ (.int .i64 0)) = w39 at n0_ n1_ ⊢
                  have BK430 := n0_
                  have HB := n1_
                  clear n0_ n1_
                  have n0_ := Aside0.mk (blk_drew BK430.out)
                  have n1_ := Aside0.mk (below_drew1 HB.out)
                  clear BK430
                  clear HB
                  have BK430 := n0_
                  have HB := n1_
                  clear n0_ n1_
                  refine start_ (n := 10) (S := fun w' => w'.cell? ⟨gb430, 0, none⟩ = some (.int .i64 a1_0) ∧ w'.cell? ⟨gb430, 1, none⟩ = some (.int .i64 a1_1) ∧ w'.cell? ⟨gb430, 2, none⟩ = some (.int .i64 a1_2) ∧ w'.cell? ⟨gb430, 3, none⟩ = some (.int .i64 0) ∧ w'.cell? ⟨gb430, 4, none⟩ = some (.int .i64 0) ∧ w'.cell? ⟨gb430, 5, none⟩ = some (.int .i64 0)) (ds := []) #[false, false, false, false, false, false, false, false, false, false] (by kernel_rfl) rfl rfl ⟨(blk_cell BK430.out 0).trans rfl, (blk_cell BK430.out 1).trans rfl, (blk_cell BK430.out 2).trans rfl, (blk_cell BK430.out 3).trans rfl, (blk_cell BK430.out 4).trans rfl, (blk_cell BK430.out 5).trans rfl⟩ (fun hHeld => ?_); refine with_tabW laws_FnMonthNames.tab4 laws_FnMonthNames.bits4 (fun HT_ HW_ => ?_)
                  generalize w39.drew = w40 at BK430 HB hHeld ⊢
                  refine pure_ (i := 0) (N := some 27) (v := ?_) (a' := ?_) #[true, false, false, false, false, false, false, false, false, false] rfl rfl (any_of HT_.out (by kernel_rfl)) (fun _ _ _ h => h) (Or.inl ⟨by rfl, ?_⟩) ?_ ?_
                  rotate_left
                  · intro w'
                    go_simp
                    with_reducible rfl
                  rotate_left
                  · simp only [Act.put, List.setIfInBounds_toArray, List.set_cons_zero, List.set_cons_succ, i64_w, i32_w]
                    rfl
                  refine take_ (i := 3) (N := some 30) (v := ?_) (a' := ?_) #[true, false, false, true, false, false, false, false, false, false] rfl rfl (take_ofW HT_.out HW_.out (by kernel_rfl)) (fun _ _ _ h => h) (Or.inl ⟨by rfl, ?_⟩) hHeld ?_ ?_
                  rotate_left
                  · rintro w' ⟨s0, s1, s2, s3, s4, s5⟩
                    go_simp
                    with_reducible rfl
                  rotate_left
                  · simp only [Act.put, List.setIfInBounds_toArray, List.set_cons_zero, List.set_cons_succ, i64_w, i32_w]
                    rfl
                  refine one_ (i := 1) (N := some 28) #[true, true, false, true, false, false, false, false, false, false] rfl rfl (one_of HT_.out (by kernel_rfl)) (by decide) (fun K hK => ?_)
                  refine goes_ Tryz.func16 (by kernel_rfl) rfl #[.int .i64 a0] (by rfl) rfl rfl (by (try simp only [List.map_toArray, List.map_cons, List.map_nil]); first | done | rfl | (simp only [List.length_drop, List.length_take]; rfl)) ?_
                  with_reducible refine (spec_Decimal.calls kj2 a0 t438 _ A13.out).mono ?_
                  rintro e w' ⟨rfl, ⟨nd, rfl⟩⟩
                  refine ⟨_, rfl, ?_⟩
                  refine hK.out _ _ ⟨(blk_cell BK430.out 0).trans rfl, (blk_cell BK430.out 1).trans rfl, (blk_cell BK430.out 2).trans rfl, (blk_cell BK430.out 3).trans rfl, (blk_cell BK430.out 4).trans rfl, (blk_cell BK430.out 5).trans rfl⟩ (fun hHeld => ?_)
                  clear hK K
                  refine norm_ (a' := ?_) ?_ ?_
                  rotate_left
                  · show Act.put _ (some 28) _ = _
                    simp only [Act.put, List.setIfInBounds_toArray, List.set_cons_zero, List.set_cons_succ, i64_w, i32_w]
                    rfl
                  refine one_ (i := 2) (N := some 29) #[true, true, true, true, false, false, false, false, false, false] rfl rfl (one_of HT_.out (by kernel_rfl)) (by decide) (fun K hK => ?_)
                  refine goes_ Tryz.func15 (by kernel_rfl) rfl #[.int .i64 4, .string t438] (by rfl) rfl rfl (by (try simp only [List.map_toArray, List.map_cons, List.map_nil]); first | done | rfl | (simp only [List.length_drop, List.length_take]; rfl)) ?_
                  with_reducible refine (laws_stars.calls kj2 4 t438 t439 _ A14.out).mono ?_
                  rintro e w' ⟨rfl, ⟨nd, rfl⟩⟩
                  refine ⟨_, rfl, ?_⟩
                  refine hK.out _ _ ⟨(blk_cell BK430.out 0).trans rfl, (blk_cell BK430.out 1).trans rfl, (blk_cell BK430.out 2).trans rfl, (blk_cell BK430.out 3).trans rfl, (blk_cell BK430.out 4).trans rfl, (blk_cell BK430.out 5).trans rfl⟩ (fun hHeld => ?_)
                  clear hK K
                  refine norm_ (a' := ?_) ?_ ?_
                  rotate_left
                  · show Act.put _ (some 29) _ = _
                    simp only [Act.put, List.setIfInBounds_toArray, List.set_cons_zero, List.set_cons_succ, i64_w, i32_w]
                    rfl
                  refine one_ (i := 4) (N := some 31) #[true, true, true, true, true, false, false, false, false, false] rfl rfl (one_of HT_.out (by kernel_rfl)) (by decide) (fun K hK => ?_)
                  refine goes_ Tryz.func24 (by kernel_rfl) rfl #[.string t439, .agg #[.int .i64 a1_0, .int .i64 a1_1, .int .i64 a1_2, .int .i64 0, .int .i64 0, .int .i64 0]] (by rfl) rfl rfl (by (try simp only [List.map_toArray, List.map_cons, List.map_nil]); first | done | rfl | (simp only [List.length_drop, List.length_take]; rfl)) ?_
                  with_reducible refine (impl_Due.calls t439 a1_0 a1_1 a1_2 0 0 0 t440 true _ A15.out).mono ?_
                  rintro e w41 ⟨rfl, hb⟩
                  refine ⟨_, rfl, ?_⟩
                  have n0_ := Aside0.mk (blk_below (g := gb430) (o := .cells #[.int .i64 a1_0, .int .i64 a1_1, .int .i64 a1_2, .int .i64 0, .int .i64 0, .int .i64 0] 23 (0, 0)) (by (with_reducible repeat (first | refine blk_drewN ?_ _ | refine blk_drew ?_ | refine blk_alloc ?_ _)); exact BK430.out) hb)
                  have n1_ := Aside0.mk (below_step (by repeat (first | (with_reducible first | exact HB.out | apply below_alloc | apply pw_below_drewN | apply below_drew1 | refine below_set ?_ GE430.out) | exact HB.out)) hb)
                  clear BK430
                  clear HB
                  have BK430 := n0_
                  have HB := n1_
                  clear n0_ n1_
                  (try clear hb)
                  (try clear hb2)
                  (try clear hk)
                  (try clear hi)
                  refine hK.out _ _ ⟨(blk_cell BK430.out 0).trans rfl, (blk_cell BK430.out 1).trans rfl, (blk_cell BK430.out 2).trans rfl, (blk_cell BK430.out 3).trans rfl, (blk_cell BK430.out 4).trans rfl, (blk_cell BK430.out 5).trans rfl⟩ (fun hHeld => ?_)
                  clear hK K
                  refine norm_ (a' := ?_) ?_ ?_
                  rotate_left
                  · show Act.put _ (some 31) _ = _
                    simp only [Act.put, List.setIfInBounds_toArray, List.set_cons_zero, List.set_cons_succ, i64_w, i32_w]
                    rfl
                  refine pure_ (i := 5) (N := some 26) (v := ?_) (a' := ?_) #[true, true, true, true, true, true, false, false, false, false] rfl rfl (any_of HT_.out (by kernel_rfl)) (fun _ _ _ h => h) (Or.inl ⟨by rfl, ?_⟩) ?_ ?_
                  rotate_left
                  · intro w'
                    go_simp
                    with_reducible rfl
                  rotate_left
                  · simp only [Act.put, List.setIfInBounds_toArray, List.set_cons_zero, List.set_cons_succ, i64_w, i32_w]
                    rfl
                  refine pure_ (i := 6) (N := some 32) (v := ?_) (a' := ?_) #[true, true, true, true, true, true, true, false, false, false] rfl rfl (any_of HT_.out (by kernel_rfl)) (fun _ _ _ h => h) (Or.inl ⟨by rfl, ?_⟩) ?_ ?_
                  rotate_left
                  · intro w'
                    go_simp
                    with_reducible rfl
                  rotate_left
                  · simp only [Act.put, List.setIfInBounds_toArray, List.set_cons_zero, List.set_cons_succ, i64_w, i32_w]
                    rfl
                  refine pure_ (i := 7) (N := some 33) (v := ?_) (a' := ?_) #[true, true, true, true, true, true, true, true, false, false] rfl rfl (any_of HT_.out (by kernel_rfl)) (fun _ _ _ h => h) (Or.inl ⟨by rfl, ?_⟩) ?_ ?_
                  rotate_left
                  · intro w'
                    go_simp
                    with_reducible rfl
                  rotate_left
                  · simp only [Act.put, List.setIfInBounds_toArray, List.set_cons_zero, List.set_cons_succ, i64_w, i32_w]
                    rfl
                  refine pure_ (i := 8) (N := some 5) (v := ?_) (a' := ?_) #[true, true, true, true, true, true, true, true, true, false] rfl rfl (any_of HT_.out (by kernel_rfl)) (fun _ _ _ h => h) (Or.inl ⟨by rfl, ?_⟩) ?_ ?_
                  rotate_left
                  · intro w'
                    go_simp
                    with_reducible rfl
                  rotate_left
                  · simp only [Act.put, List.setIfInBounds_toArray, List.set_cons_zero, List.set_cons_succ, i64_w, i32_w]
                    rfl
                  refine pure_ (i := 9) (N := some 6) (v := ?_) (a' := ?_) #[true, true, true, true, true, true, true, true, true, true] rfl rfl (any_of HT_.out (by kernel_rfl)) (fun _ _ _ h => h) (Or.inl ⟨by rfl, ?_⟩) ?_ ?_
                  rotate_left
                  · intro w'
                    go_simp
                    with_reducible rfl
                  rotate_left
                  · simp only [Act.put, List.setIfInBounds_toArray, List.set_cons_zero, List.set_cons_succ, i64_w, i32_w]
                    rfl
                  refine done_ (done_of HT_.out (by kernel_rfl)) ?_
                  try go_wp2
                  have n0_ := Aside0.mk (blk_drew BK430.out)
                  have n1_ := Aside0.mk (below_drew1 HB.out)
                  clear BK430
                  clear HB
                  have BK430 := n0_
                  have HB := n1_
                  clear n0_ n1_
                  refine start_ (n := 10) (S := fun w' => w'.cell? ⟨gb430, 0, none⟩ = some (.int .i64 a1_0) ∧ w'.cell? ⟨gb430, 1, none⟩ = some (.int .i64 a1_1) ∧ w'.cell? ⟨gb430, 2, none⟩ = some (.int .i64 a1_2) ∧ w'.cell? ⟨gb430, 3, none⟩ = some (.int .i64 0) ∧ w'.cell? ⟨gb430, 4, none⟩ = some (.int .i64 0) ∧ w'.cell? ⟨gb430, 5, none⟩ = some (.int .i64 0)) (ds := []) #[false, false, false, false, false, false, false, false, false, false] (by kernel_rfl) rfl rfl ⟨(blk_cell BK430.out 0).trans rfl, (blk_cell BK430.out 1).trans rfl, (blk_cell BK430.out 2).trans rfl, (blk_cell BK430.out 3).trans rfl, (blk_cell BK430.out 4).trans rfl, (blk_cell BK430.out 5).trans rfl⟩ (fun hHeld => ?_); refine with_tabW laws_FnMonthNames.tab5 laws_FnMonthNames.bits5 (fun HT_ HW_ => ?_)
                  generalize w41.drew = w42 at BK430 HB hHeld ⊢
                  refine pure_ (i := 0) (N := some 35) (v := ?_) (a' := ?_) #[true, false, false, false, false, false, false, false, false, false] rfl rfl (any_of HT_.out (by kernel_rfl)) (fun _ _ _ h => h) (Or.inl ⟨by rfl, ?_⟩) ?_ ?_
                  rotate_left
                  · intro w'
                    go_simp
                    with_reducible rfl
                  rotate_left
                  · simp only [Act.put, List.setIfInBounds_toArray, List.set_cons_zero, List.set_cons_succ, i64_w, i32_w]
                    rfl
                  refine take_ (i := 3) (N := some 38) (v := ?_) (a' := ?_) #[true, false, false, true, false, false, false, false, false, false] rfl rfl (take_ofW HT_.out HW_.out (by kernel_rfl)) (fun _ _ _ h => h) (Or.inl ⟨by rfl, ?_⟩) hHeld ?_ ?_
                  rotate_left
                  · rintro w' ⟨s0, s1, s2, s3, s4, s5⟩
                    go_simp
                    with_reducible rfl
                  rotate_left
                  · simp only [Act.put, List.setIfInBounds_toArray, List.set_cons_zero, List.set_cons_succ, i64_w, i32_w]
                    rfl
                  refine one_ (i := 1) (N := some 36) #[true, true, false, true, false, false, false, false, false, false] rfl rfl (one_of HT_.out (by kernel_rfl)) (by decide) (fun K hK => ?_)
                  refine goes_ Tryz.func30 (by kernel_rfl) rfl #[.int .i64 a0] (by rfl) rfl rfl (by (try simp only [List.map_toArray, List.map_cons, List.map_nil]); first | done | rfl | (simp only [List.length_drop, List.length_take]; rfl)) ?_
                  with_reducible refine (spec_Month.calls a0 t442 _ A16.out).mono ?_
                  rintro e w' ⟨rfl, ⟨nd, rfl⟩⟩
                  refine ⟨_, rfl, ?_⟩
                  refine hK.out _ _ ⟨(blk_cell BK430.out 0).trans rfl, (blk_cell BK430.out 1).trans rfl, (blk_cell BK430.out 2).trans rfl, (blk_cell BK430.out 3).trans rfl, (blk_cell BK430.out 4).trans rfl, (blk_cell BK430.out 5).trans rfl⟩ (fun hHeld => ?_)
                  clear hK K
                  refine norm_ (a' := ?_) ?_ ?_
                  rotate_left
                  · show Act.put _ (some 36) _ = _
                    simp only [Act.put, List.setIfInBounds_toArray, List.set_cons_zero, List.set_cons_succ, i64_w, i32_w]
                    rfl
                  refine one_ (i := 2) (N := some 37) #[true, true, true, true, false, false, false, false, false, false] rfl rfl (one_of HT_.out (by kernel_rfl)) (by decide) (fun K hK => ?_)
                  refine goes_ Tryz.func15 (by kernel_rfl) rfl #[.int .i64 4, .string t442] (by rfl) rfl rfl (by (try simp only [List.map_toArray, List.map_cons, List.map_nil]); first | done | rfl | (simp only [List.length_drop, List.length_take]; rfl)) ?_
                  with_reducible refine (laws_stars.calls kj2 4 t442 t443 _ A17.out).mono ?_
                  rintro e w' ⟨rfl, ⟨nd, rfl⟩⟩
                  refine ⟨_, rfl, ?_⟩
                  refine hK.out _ _ ⟨(blk_cell BK430.out 0).trans rfl, (blk_cell BK430.out 1).trans rfl, (blk_cell BK430.out 2).trans rfl, (blk_cell BK430.out 3).trans rfl, (blk_cell BK430.out 4).trans rfl, (blk_cell BK430.out 5).trans rfl⟩ (fun hHeld => ?_)
                  clear hK K
                  refine norm_ (a' := ?_) ?_ ?_
                  rotate_left
                  · show Act.put _ (some 37) _ = _
                    simp only [Act.put, List.setIfInBounds_toArray, List.set_cons_zero, List.set_cons_succ, i64_w, i32_w]
                    rfl
                  refine one_ (i := 4) (N := some 39) #[true, true, true, true, true, false, false, false, false, false] rfl rfl (one_of HT_.out (by kernel_rfl)) (by decide) (fun K hK => ?_)
                  refine goes_ Tryz.func24 (by kernel_rfl) rfl #[.string t443, .agg #[.int .i64 a1_0, .int .i64 a1_1, .int .i64 a1_2, .int .i64 0, .int .i64 0, .int .i64 0]] (by rfl) rfl rfl (by (try simp only [List.map_toArray, List.map_cons, List.map_nil]); first | done | rfl | (simp only [List.length_drop, List.length_take]; rfl)) ?_
                  with_reducible refine (impl_Due.calls t443 a1_0 a1_1 a1_2 0 0 0 t444 true _ A18.out).mono ?_
                  rintro e w43 ⟨rfl, hb⟩
                  refine ⟨_, rfl, ?_⟩
                  have n0_ := Aside0.mk (blk_below (g := gb430) (o := .cells #[.int .i64 a1_0, .int .i64 a1_1, .int .i64 a1_2, .int .i64 0, .int .i64 0, .int .i64 0] 23 (0, 0)) (by (with_reducible repeat (first | refine blk_drewN ?_ _ | refine blk_drew ?_ | refine blk_alloc ?_ _)); exact BK430.out) hb)
                  have n1_ := Aside0.mk (below_step (by repeat (first | (with_reducible first | exact HB.out | apply below_alloc | apply pw_below_drewN | apply below_drew1 | refine below_set ?_ GE430.out) | exact HB.out)) hb)
                  clear BK430
                  clear HB
                  have BK430 := n0_
                  have HB := n1_
                  clear n0_ n1_
                  (try clear hb)
                  (try clear hb2)
                  (try clear hk)
                  (try clear hi)
                  refine hK.out _ _ ⟨(blk_cell BK430.out 0).trans rfl, (blk_cell BK430.out 1).trans rfl, (blk_cell BK430.out 2).trans rfl, (blk_cell BK430.out 3).trans rfl, (blk_cell BK430.out 4).trans rfl, (blk_cell BK430.out 5).trans rfl⟩ (fun hHeld => ?_)
                  clear hK K
                  refine norm_ (a' := ?_) ?_ ?_
                  rotate_left
                  · show Act.put _ (some 39) _ = _
                    simp only [Act.put, List.setIfInBounds_toArray, List.set_cons_zero, List.set_cons_succ, i64_w, i32_w]
                    rfl
                  refine pure_ (i := 5) (N := some 34) (v := ?_) (a' := ?_) #[true, true, true, true, true, true, false, false, false, false] rfl rfl (any_of HT_.out (by kernel_rfl)) (fun _ _ _ h => h) (Or.inl ⟨by rfl, ?_⟩) ?_ ?_
                  rotate_left
                  · intro w'
                    go_simp
                    with_reducible rfl
                  rotate_left
                  · simp only [Act.put, List.setIfInBounds_toArray, List.set_cons_zero, List.set_cons_succ, i64_w, i32_w]
                    rfl
                  refine pure_ (i := 6) (N := some 40) (v := ?_) (a' := ?_) #[true, true, true, true, true, true, true, false, false, false] rfl rfl (any_of HT_.out (by kernel_rfl)) (fun _ _ _ h => h) (Or.inl ⟨by rfl, ?_⟩) ?_ ?_
                  rotate_left
                  · intro w'
                    go_simp
                    with_reducible rfl
                  rotate_left
                  · simp only [Act.put, List.setIfInBounds_toArray, List.set_cons_zero, List.set_cons_succ, i64_w, i32_w]
                    rfl
                  refine pure_ (i := 7) (N := some 41) (v := ?_) (a' := ?_) #[true, true, true, true, true, true, true, true, false, false] rfl rfl (any_of HT_.out (by kernel_rfl)) (fun _ _ _ h => h) (Or.inl ⟨by rfl, ?_⟩) ?_ ?_
                  rotate_left
                  · intro w'
                    go_simp
                    with_reducible rfl
                  rotate_left
                  · simp only [Act.put, List.setIfInBounds_toArray, List.set_cons_zero, List.set_cons_succ, i64_w, i32_w]
                    rfl
                  refine pure_ (i := 8) (N := some 7) (v := ?_) (a' := ?_) #[true, true, true, true, true, true, true, true, true, false] rfl rfl (any_of HT_.out (by kernel_rfl)) (fun _ _ _ h => h) (Or.inl ⟨by rfl, ?_⟩) ?_ ?_
                  rotate_left
                  · intro w'
                    go_simp
                    with_reducible rfl
                  rotate_left
                  · simp only [Act.put, List.setIfInBounds_toArray, List.set_cons_zero, List.set_cons_succ, i64_w, i32_w]
                    rfl
                  refine pure_ (i := 9) (N := some 8) (v := ?_) (a' := ?_) #[true, true, true, true, true, true, true, true, true, true] rfl rfl (any_of HT_.out (by kernel_rfl)) (fun _ _ _ h => h) (Or.inl ⟨by rfl, ?_⟩) ?_ ?_
                  rotate_left
                  · intro w'
                    go_simp
                    with_reducible rfl
                  rotate_left
                  · simp only [Act.put, List.setIfInBounds_toArray, List.set_cons_zero, List.set_cons_succ, i64_w, i32_w]
                    rfl
                  refine done_ (done_of HT_.out (by kernel_rfl)) ?_
                  try go_wp2
                  have n0_ := Aside0.mk (blk_drew BK430.out)
                  have n1_ := Aside0.mk (below_drew1 HB.out)
                  clear BK430
                  clear HB
                  have BK430 := n0_
                  have HB := n1_
                  clear n0_ n1_
                  refine start_ (n := 11) (S := fun w' => w'.cell? ⟨gb430, 0, none⟩ = some (.int .i64 a1_0) ∧ w'.cell? ⟨gb430, 1, none⟩ = some (.int .i64 a1_1) ∧ w'.cell? ⟨gb430, 2, none⟩ = some (.int .i64 a1_2) ∧ w'.cell? ⟨gb430, 3, none⟩ = some (.int .i64 0) ∧ w'.cell? ⟨gb430, 4, none⟩ = some (.int .i64 0) ∧ w'.cell? ⟨gb430, 5, none⟩ = some (.int .i64 0)) (ds := []) #[false, false, false, false, false, false, false, false, false, false, false] (by kernel_rfl) rfl rfl ⟨(blk_cell BK430.out 0).trans rfl, (blk_cell BK430.out 1).trans rfl, (blk_cell BK430.out 2).trans rfl, (blk_cell BK430.out 3).trans rfl, (blk_cell BK430.out 4).trans rfl, (blk_cell BK430.out 5).trans rfl⟩ (fun hHeld => ?_); refine with_tabW laws_FnMonthNames.tab6 laws_FnMonthNames.bits6 (fun HT_ HW_ => ?_)
                  generalize w43.drew = w44 at BK430 HB hHeld ⊢
                  refine pure_ (i := 0) (N := some 43) (v := ?_) (a' := ?_) #[true, false, false, false, false, false, false, false, false, false, false] rfl rfl (any_of HT_.out (by kernel_rfl)) (fun _ _ _ h => h) (Or.inl ⟨by rfl, ?_⟩) ?_ ?_
                  rotate_left
                  · intro w'
                    go_simp
                    with_reducible rfl
                  rotate_left
                  · simp only [Act.put, List.setIfInBounds_toArray, List.set_cons_zero, List.set_cons_succ, i64_w, i32_w]
                    rfl
                  refine take_ (i := 4) (N := some 47) (v := ?_) (a' := ?_) #[true, false, false, false, true, false, false, false, false, false, false] rfl rfl (take_ofW HT_.out HW_.out (by kernel_rfl)) (fun _ _ _ h => h) (Or.inl ⟨by rfl, ?_⟩) hHeld ?_ ?_
                  rotate_left
                  · rintro w' ⟨s0, s1, s2, s3, s4, s5⟩
                    go_simp
                    with_reducible rfl
                  rotate_left
                  · simp only [Act.put, List.setIfInBounds_toArray, List.set_cons_zero, List.set_cons_succ, i64_w, i32_w]
                    rfl
                  refine one_ (i := 1) (N := some 44) #[true, true, false, false, true, false, false, false, false, false, false] rfl rfl (one_of HT_.out (by kernel_rfl)) (by decide) (fun K hK => ?_)
                  refine goes_ Tryz.func30 (by kernel_rfl) rfl #[.int .i64 a0] (by rfl) rfl rfl (by (try simp only [List.map_toArray, List.map_cons, List.map_nil]); first | done | rfl | (simp only [List.length_drop, List.length_take]; rfl)) ?_
                  with_reducible refine (spec_Month.calls a0 t446 _ A19.out).mono ?_
                  rintro e w' ⟨rfl, ⟨nd, rfl⟩⟩
                  refine ⟨_, rfl, ?_⟩
                  refine hK.out _ _ ⟨(blk_cell BK430.out 0).trans rfl, (blk_cell BK430.out 1).trans rfl, (blk_cell BK430.out 2).trans rfl, (blk_cell BK430.out 3).trans rfl, (blk_cell BK430.out 4).trans rfl, (blk_cell BK430.out 5).trans rfl⟩ (fun hHeld => ?_)
                  clear hK K
                  refine norm_ (a' := ?_) ?_ ?_
                  rotate_left
                  · show Act.put _ (some 44) _ = _
                    simp only [Act.put, List.setIfInBounds_toArray, List.set_cons_zero, List.set_cons_succ, i64_w, i32_w]
                    rfl
                  refine one_ (i := 2) (N := some 45) #[true, true, true, false, true, false, false, false, false, false, false] rfl rfl (one_of HT_.out (by kernel_rfl)) (by decide) (fun K hK => ?_)
                  refine goes_ Tryz.func26 (by kernel_rfl) rfl #[.string t446] (by rfl) rfl rfl (by (try simp only [List.map_toArray, List.map_cons, List.map_nil]); first | done | rfl | (simp only [List.length_drop, List.length_take]; rfl)) ?_
                  with_reducible refine (spec_Lower.calls t446 t447 _ A20.out).mono ?_
                  rintro e w45 ⟨rfl, hb⟩
                  refine ⟨_, rfl, ?_⟩
                  have n0_ := Aside0.mk (blk_below (g := gb430) (o := .cells #[.int .i64 a1_0, .int .i64 a1_1, .int .i64 a1_2, .int .i64 0, .int .i64 0, .int .i64 0] 23 (0, 0)) (by (with_reducible repeat (first | refine blk_drewN ?_ _ | refine blk_drew ?_ | refine blk_alloc ?_ _)); exact BK430.out) hb)
                  have n1_ := Aside0.mk (below_step (by repeat (first | (with_reducible first | exact HB.out | apply below_alloc | apply pw_below_drewN | apply below_drew1 | refine below_set ?_ GE430.out) | exact HB.out)) hb)
                  clear BK430
                  clear HB
                  have BK430 := n0_
                  have HB := n1_
                  clear n0_ n1_
                  (try clear hb)
                  (try clear hb2)
                  (try clear hk)
                  (try clear hi)
                  refine hK.out _ _ ⟨(blk_cell BK430.out 0).trans rfl, (blk_cell BK430.out 1).trans rfl, (blk_cell BK430.out 2).trans rfl, (blk_cell BK430.out 3).trans rfl, (blk_cell BK430.out 4).trans rfl, (blk_cell BK430.out 5).trans rfl⟩ (fun hHeld => ?_)
                  clear hK K
                  refine norm_ (a' := ?_) ?_ ?_
                  rotate_left
                  · show Act.put _ (some 45) _ = _
                    simp only [Act.put, List.setIfInBounds_toArray, List.set_cons_zero, List.set_cons_succ, i64_w, i32_w]
                    rfl
                  refine one_ (i := 3) (N := some 46) #[true, true, true, true, true, false, false, false, false, false, false] rfl rfl (one_of HT_.out (by kernel_rfl)) (by decide) (fun K hK => ?_)
                  refine goes_ Tryz.func15 (by kernel_rfl) rfl #[.int .i64 4, .string t447] (by rfl) rfl rfl (by (try simp only [List.map_toArray, List.map_cons, List.map_nil]); first | done | rfl | (simp only [List.length_drop, List.length_take]; rfl)) ?_
                  with_reducible refine (laws_stars.calls kj2 4 t447 t448 _ A21.out).mono ?_
                  rintro e w' ⟨rfl, ⟨nd, rfl⟩⟩
                  refine ⟨_, rfl, ?_⟩
                  refine hK.out _ _ ⟨(blk_cell BK430.out 0).trans rfl, (blk_cell BK430.out 1).trans rfl, (blk_cell BK430.out 2).trans rfl, (blk_cell BK430.out 3).trans rfl, (blk_cell BK430.out 4).trans rfl, (blk_cell BK430.out 5).trans rfl⟩ (fun hHeld => ?_)
                  clear hK K
                  refine norm_ (a' := ?_) ?_ ?_
                  rotate_left
                  · show Act.put _ (some 46) _ = _
                    simp only [Act.put, List.setIfInBounds_toArray, List.set_cons_zero, List.set_cons_succ, i64_w, i32_w]
                    rfl
                  refine one_ (i := 5) (N := some 48) #[true, true, true, true, true, true, false, false, false, false, false] rfl rfl (one_of HT_.out (by kernel_rfl)) (by decide) (fun K hK => ?_)
                  refine goes_ Tryz.func24 (by kernel_rfl) rfl #[.string t448, .agg #[.int .i64 a1_0, .int .i64 a1_1, .int .i64 a1_2, .int .i64 0, .int .i64 0, .int .i64 0]] (by rfl) rfl rfl (by (try simp only [List.map_toArray, List.map_cons, List.map_nil]); first | done | rfl | (simp only [List.length_drop, List.length_take]; rfl)) ?_
                  with_reducible refine (impl_Due.calls t448 a1_0 a1_1 a1_2 0 0 0 t449 true _ A22.out).mono ?_
                  rintro e w46 ⟨rfl, hb⟩
                  refine ⟨_, rfl, ?_⟩
                  have n0_ := Aside0.mk (blk_below (g := gb430) (o := .cells #[.int .i64 a1_0, .int .i64 a1_1, .int .i64 a1_2, .int .i64 0, .int .i64 0, .int .i64 0] 23 (0, 0)) (by (with_reducible repeat (first | refine blk_drewN ?_ _ | refine blk_drew ?_ | refine blk_alloc ?_ _)); exact BK430.out) hb)
                  have n1_ := Aside0.mk (below_step (by repeat (first | (with_reducible first | exact HB.out | apply below_alloc | apply pw_below_drewN | apply below_drew1 | refine below_set ?_ GE430.out) | exact HB.out)) hb)
                  clear BK430
                  clear HB
                  have BK430 := n0_
                  have HB := n1_
                  clear n0_ n1_
                  (try clear hb)
                  (try clear hb2)
                  (try clear hk)
                  (try clear hi)
                  refine hK.out _ _ ⟨(blk_cell BK430.out 0).trans rfl, (blk_cell BK430.out 1).trans rfl, (blk_cell BK430.out 2).trans rfl, (blk_cell BK430.out 3).trans rfl, (blk_cell BK430.out 4).trans rfl, (blk_cell BK430.out 5).trans rfl⟩ (fun hHeld => ?_)
                  clear hK K
                  refine norm_ (a' := ?_) ?_ ?_
                  rotate_left
                  · show Act.put _ (some 48) _ = _
                    simp only [Act.put, List.setIfInBounds_toArray, List.set_cons_zero, List.set_cons_succ, i64_w, i32_w]
                    rfl
                  refine pure_ (i := 6) (N := some 42) (v := ?_) (a' := ?_) #[true, true, true, true, true, true, true, false, false, false, false] rfl rfl (any_of HT_.out (by kernel_rfl)) (fun _ _ _ h => h) (Or.inl ⟨by rfl, ?_⟩) ?_ ?_
                  rotate_left
                  · intro w'
                    go_simp
                    with_reducible rfl
                  rotate_left
                  · simp only [Act.put, List.setIfInBounds_toArray, List.set_cons_zero, List.set_cons_succ, i64_w, i32_w]
                    rfl
                  refine pure_ (i := 7) (N := some 49) (v := ?_) (a' := ?_) #[true, true, true, true, true, true, true, true, false, false, false] rfl rfl (any_of HT_.out (by kernel_rfl)) (fun _ _ _ h => h) (Or.inl ⟨by rfl, ?_⟩) ?_ ?_
                  rotate_left
                  · intro w'
                    go_simp
                    with_reducible rfl
                  rotate_left
                  · simp only [Act.put, List.setIfInBounds_toArray, List.set_cons_zero, List.set_cons_succ, i64_w, i32_w]
                    rfl
                  refine pure_ (i := 8) (N := some 50) (v := ?_) (a' := ?_) #[true, true, true, true, true, true, true, true, true, false, false] rfl rfl (any_of HT_.out (by kernel_rfl)) (fun _ _ _ h => h) (Or.inl ⟨by rfl, ?_⟩) ?_ ?_
                  rotate_left
                  · intro w'
                    go_simp
                    with_reducible rfl
                  rotate_left
                  · simp only [Act.put, List.setIfInBounds_toArray, List.set_cons_zero, List.set_cons_succ, i64_w, i32_w]
                    rfl
                  refine pure_ (i := 9) (N := some 9) (v := ?_) (a' := ?_) #[true, true, true, true, true, true, true, true, true, true, false] rfl rfl (any_of HT_.out (by kernel_rfl)) (fun _ _ _ h => h) (Or.inl ⟨by rfl, ?_⟩) ?_ ?_
                  rotate_left
                  · intro w'
                    go_simp
                    with_reducible rfl
                  rotate_left
                  · simp only [Act.put, List.setIfInBounds_toArray, List.set_cons_zero, List.set_cons_succ, i64_w, i32_w]
                    rfl
                  refine pure_ (i := 10) (N := some 10) (v := ?_) (a' := ?_) #[true, true, true, true, true, true, true, true, true, true, true] rfl rfl (any_of HT_.out (by kernel_rfl)) (fun _ _ _ h => h) (Or.inl ⟨by rfl, ?_⟩) ?_ ?_
                  rotate_left
                  · intro w'
                    go_simp
                    with_reducible rfl
                  rotate_left
                  · simp only [Act.put, List.setIfInBounds_toArray, List.set_cons_zero, List.set_cons_succ, i64_w, i32_w]
                    rfl
                  refine done_ (done_of HT_.out (by kernel_rfl)) ?_
                  have hcz47_0 : w46.cell? ⟨gb430, 0, none⟩ = some (.int .i64 a1_0) := (blk_cell BK430.out 0).trans rfl
                  have hcz47_1 : w46.cell? ⟨gb430, 1, none⟩ = some (.int .i64 a1_1) := (blk_cell BK430.out 1).trans rfl
                  have hcz47_2 : w46.cell? ⟨gb430, 2, none⟩ = some (.int .i64 a1_2) := (blk_cell BK430.out 2).trans rfl
                  have hcz47_3 : w46.cell? ⟨gb430, 3, none⟩ = some (.int .i64 0) := (blk_cell BK430.out 3).trans rfl
                  have hcz47_4 : w46.cell? ⟨gb430, 4, none⟩ = some (.int .i64 0) := (blk_cell BK430.out 4).trans rfl
                  have hcz47_5 : w46.cell? ⟨gb430, 5, none⟩ = some (.int .i64 0) := (blk_cell BK430.out 5).trans rfl
                  have hfz47_0 := blk_frozen BK430.out 0
                  have hfz47_1 := blk_frozen BK430.out 1
                  have hfz47_2 := blk_frozen BK430.out 2
                  have hfz47_3 := blk_frozen BK430.out 3
                  have hfz47_4 := blk_frozen BK430.out 4
                  have hfz47_5 := blk_frozen BK430.out 5
                  try go_wp2
                  go_ret
                  exact ⟨by first | rfl | (simp [errW_none, errW_some] <;> rfl) | (simp [*, errW_none, errW_some] <;> rfl), by repeat (first | (with_reducible first | exact HB.out | apply below_alloc | apply pw_below_drewN | apply below_drew1 | refine below_set ?_ GE430.out) | exact HB.out)⟩
              · rw [if_neg c26] at H
                have c26b0 : (t440 == (a1_1 == a0)) = false := by simpa using c26
                (try (have c26b1 : decide (t440 = (a1_1 == a0)) = false := by simpa using c26))
                (try (have c26b2 : (t440 == (a1_1 == a0)) = false := by simpa using c26))
                (try (have c26b3 : ¬ (t440 = (a1_1 == a0)) := by simpa using c26))
                clear c26
                obtain rfl := Option.some.inj H
                have hcz48_0 : wc.cell? ⟨gb430, 0, none⟩ = some (.int .i64 a1_0) := (blk_cell BK430.out 0).trans rfl
                have hcz48_1 : wc.cell? ⟨gb430, 1, none⟩ = some (.int .i64 a1_1) := (blk_cell BK430.out 1).trans rfl
                have hcz48_2 : wc.cell? ⟨gb430, 2, none⟩ = some (.int .i64 a1_2) := (blk_cell BK430.out 2).trans rfl
                have hcz48_3 : wc.cell? ⟨gb430, 3, none⟩ = some (.int .i64 a1_3) := (blk_cell BK430.out 3).trans rfl
                have hcz48_4 : wc.cell? ⟨gb430, 4, none⟩ = some (.int .i64 a1_4) := (blk_cell BK430.out 4).trans rfl
                have hcz48_5 : wc.cell? ⟨gb430, 5, none⟩ = some (.int .i64 a1_5) := (blk_cell BK430.out 5).trans rfl
                have hfz48_0 := blk_frozen BK430.out 0
                have hfz48_1 := blk_frozen BK430.out 1
                have hfz48_2 := blk_frozen BK430.out 2
                have hfz48_3 := blk_frozen BK430.out 3
                have hfz48_4 := blk_frozen BK430.out 4
                have hfz48_5 := blk_frozen BK430.out 5
                try go_wp2
                have n0_ : Aside0 ((((wc.setCell ⟨gb430, 3, none⟩ (.int .i64 0)).setCell ⟨gb430, 4, none⟩ (.int .i64 0)).setCell ⟨gb430, 5, none⟩ (.int .i64 0)).heap[gb430]? = some (.cells #[.int .i64 a1_0, .int .i64 a1_1, .int .i64 a1_2, .int .i64 0, .int .i64 0, .int .i64 0] 23 (0, 0))) := ⟨by (with_reducible repeat (first | refine blk_drewN ?_ _ | refine blk_drew ?_ | refine blk_alloc ?_ _)); refine blk_put (cs := #[.int .i64 a1_0, .int .i64 a1_1, .int .i64 a1_2, .int .i64 0, .int .i64 0, .int .i64 a1_5]) ?_ 5 _ rfl; (with_reducible repeat (first | refine blk_drewN ?_ _ | refine blk_drew ?_ | refine blk_alloc ?_ _)); refine blk_put (cs := #[.int .i64 a1_0, .int .i64 a1_1, .int .i64 a1_2, .int .i64 0, .int .i64 a1_4, .int .i64 a1_5]) ?_ 4 _ rfl; (with_reducible repeat (first | refine blk_drewN ?_ _ | refine blk_drew ?_ | refine blk_alloc ?_ _)); refine blk_put (cs := #[.int .i64 a1_0, .int .i64 a1_1, .int .i64 a1_2, .int .i64 a1_3, .int .i64 a1_4, .int .i64 a1_5]) ?_ 3 _ rfl; (with_reducible repeat (first | refine blk_drewN ?_ _ | refine blk_drew ?_ | refine blk_alloc ?_ _)); exact BK430.out⟩
                have n1_ : Aside0 (Below w.heap.size w (((wc.setCell ⟨gb430, 3, none⟩ (.int .i64 0)).setCell ⟨gb430, 4, none⟩ (.int .i64 0)).setCell ⟨gb430, 5, none⟩ (.int .i64 0))) := ⟨by repeat (first | (with_reducible first | exact HB.out | apply below_alloc | apply pw_below_drewN | apply below_drew1 | refine below_set ?_ GE430.out) | exact HB.out)⟩
                (try clear BK430)
                (try clear HB)
                generalize (((wc.setCell ⟨gb430, 3, none⟩ (.int .i64 0)).setCell ⟨gb430, 4, none⟩ (.int .i64 0)).setCell ⟨gb430, 5, none⟩ (.int .i64 0)) = w49 at n0_ n1_ ⊢
                have BK430 := n0_
                have HB := n1_
                clear n0_ n1_
                have n0_ := Aside0.mk (blk_drew BK430.out)
                have n1_ := Aside0.mk (below_drew1 HB.out)
                clear BK430
                clear HB
                have BK430 := n0_
                have HB := n1_
                clear n0_ n1_
                refine start_ (n := 10) (S := fun w' => w'.cell? ⟨gb430, 0, none⟩ = some (.int .i64 a1_0) ∧ w'.cell? ⟨gb430, 1, none⟩ = some (.int .i64 a1_1) ∧ w'.cell? ⟨gb430, 2, none⟩ = some (.int .i64 a1_2) ∧ w'.cell? ⟨gb430, 3, none⟩ = some (.int .i64 0) ∧ w'.cell? ⟨gb430, 4, none⟩ = some (.int .i64 0) ∧ w'.cell? ⟨gb430, 5, none⟩ = some (.int .i64 0)) (ds := []) #[false, false, false, false, false, false, false, false, false, false] (by kernel_rfl) rfl rfl ⟨(blk_cell BK430.out 0).trans rfl, (blk_cell BK430.out 1).trans rfl, (blk_cell BK430.out 2).trans rfl, (blk_cell BK430.out 3).trans rfl, (blk_cell BK430.out 4).trans rfl, (blk_cell BK430.out 5).trans rfl⟩ (fun hHeld => ?_); refine with_tabW laws_FnMonthNames.tab4 laws_FnMonthNames.bits4 (fun HT_ HW_ => ?_)
                generalize w49.drew = w50 at BK430 HB hHeld ⊢
                refine pure_ (i := 0) (N := some 27) (v := ?_) (a' := ?_) #[true, false, false, false, false, false, false, false, false, false] rfl rfl (any_of HT_.out (by kernel_rfl)) (fun _ _ _ h => h) (Or.inl ⟨by rfl, ?_⟩) ?_ ?_
                rotate_left
                · intro w'
                  go_simp
                  with_reducible rfl
                rotate_left
                · simp only [Act.put, List.setIfInBounds_toArray, List.set_cons_zero, List.set_cons_succ, i64_w, i32_w]
                  rfl
                refine take_ (i := 3) (N := some 30) (v := ?_) (a' := ?_) #[true, false, false, true, false, false, false, false, false, false] rfl rfl (take_ofW HT_.out HW_.out (by kernel_rfl)) (fun _ _ _ h => h) (Or.inl ⟨by rfl, ?_⟩) hHeld ?_ ?_
                rotate_left
                · rintro w' ⟨s0, s1, s2, s3, s4, s5⟩
                  go_simp
                  with_reducible rfl
                rotate_left
                · simp only [Act.put, List.setIfInBounds_toArray, List.set_cons_zero, List.set_cons_succ, i64_w, i32_w]
                  rfl
                refine one_ (i := 1) (N := some 28) #[true, true, false, true, false, false, false, false, false, false] rfl rfl (one_of HT_.out (by kernel_rfl)) (by decide) (fun K hK => ?_)
                refine goes_ Tryz.func16 (by kernel_rfl) rfl #[.int .i64 a0] (by rfl) rfl rfl (by (try simp only [List.map_toArray, List.map_cons, List.map_nil]); first | done | rfl | (simp only [List.length_drop, List.length_take]; rfl)) ?_
                with_reducible refine (spec_Decimal.calls kj2 a0 t438 _ A13.out).mono ?_
                rintro e w' ⟨rfl, ⟨nd, rfl⟩⟩
                refine ⟨_, rfl, ?_⟩
                refine hK.out _ _ ⟨(blk_cell BK430.out 0).trans rfl, (blk_cell BK430.out 1).trans rfl, (blk_cell BK430.out 2).trans rfl, (blk_cell BK430.out 3).trans rfl, (blk_cell BK430.out 4).trans rfl, (blk_cell BK430.out 5).trans rfl⟩ (fun hHeld => ?_)
                clear hK K
                refine norm_ (a' := ?_) ?_ ?_
                rotate_left
                · show Act.put _ (some 28) _ = _
                  simp only [Act.put, List.setIfInBounds_toArray, List.set_cons_zero, List.set_cons_succ, i64_w, i32_w]
                  rfl
                refine one_ (i := 2) (N := some 29) #[true, true, true, true, false, false, false, false, false, false] rfl rfl (one_of HT_.out (by kernel_rfl)) (by decide) (fun K hK => ?_)
                refine goes_ Tryz.func15 (by kernel_rfl) rfl #[.int .i64 4, .string t438] (by rfl) rfl rfl (by (try simp only [List.map_toArray, List.map_cons, List.map_nil]); first | done | rfl | (simp only [List.length_drop, List.length_take]; rfl)) ?_
                with_reducible refine (laws_stars.calls kj2 4 t438 t439 _ A14.out).mono ?_
                rintro e w' ⟨rfl, ⟨nd, rfl⟩⟩
                refine ⟨_, rfl, ?_⟩
                refine hK.out _ _ ⟨(blk_cell BK430.out 0).trans rfl, (blk_cell BK430.out 1).trans rfl, (blk_cell BK430.out 2).trans rfl, (blk_cell BK430.out 3).trans rfl, (blk_cell BK430.out 4).trans rfl, (blk_cell BK430.out 5).trans rfl⟩ (fun hHeld => ?_)
                clear hK K
                refine norm_ (a' := ?_) ?_ ?_
                rotate_left
                · show Act.put _ (some 29) _ = _
                  simp only [Act.put, List.setIfInBounds_toArray, List.set_cons_zero, List.set_cons_succ, i64_w, i32_w]
                  rfl
                refine one_ (i := 4) (N := some 31) #[true, true, true, true, true, false, false, false, false, false] rfl rfl (one_of HT_.out (by kernel_rfl)) (by decide) (fun K hK => ?_)
                refine goes_ Tryz.func24 (by kernel_rfl) rfl #[.string t439, .agg #[.int .i64 a1_0, .int .i64 a1_1, .int .i64 a1_2, .int .i64 0, .int .i64 0, .int .i64 0]] (by rfl) rfl rfl (by (try simp only [List.map_toArray, List.map_cons, List.map_nil]); first | done | rfl | (simp only [List.length_drop, List.length_take]; rfl)) ?_
                with_reducible refine (impl_Due.calls t439 a1_0 a1_1 a1_2 0 0 0 t440 true _ A15.out).mono ?_
                rintro e w51 ⟨rfl, hb⟩
                refine ⟨_, rfl, ?_⟩
                have n0_ := Aside0.mk (blk_below (g := gb430) (o := .cells #[.int .i64 a1_0, .int .i64 a1_1, .int .i64 a1_2, .int .i64 0, .int .i64 0, .int .i64 0] 23 (0, 0)) (by (with_reducible repeat (first | refine blk_drewN ?_ _ | refine blk_drew ?_ | refine blk_alloc ?_ _)); exact BK430.out) hb)
                have n1_ := Aside0.mk (below_step (by repeat (first | (with_reducible first | exact HB.out | apply below_alloc | apply pw_below_drewN | apply below_drew1 | refine below_set ?_ GE430.out) | exact HB.out)) hb)
                clear BK430
                clear HB
                have BK430 := n0_
                have HB := n1_
                clear n0_ n1_
                (try clear hb)
                (try clear hb2)
                (try clear hk)
                (try clear hi)
                refine hK.out _ _ ⟨(blk_cell BK430.out 0).trans rfl, (blk_cell BK430.out 1).trans rfl, (blk_cell BK430.out 2).trans rfl, (blk_cell BK430.out 3).trans rfl, (blk_cell BK430.out 4).trans rfl, (blk_cell BK430.out 5).trans rfl⟩ (fun hHeld => ?_)
                clear hK K
                refine norm_ (a' := ?_) ?_ ?_
                rotate_left
                · show Act.put _ (some 31) _ = _
                  simp only [Act.put, List.setIfInBounds_toArray, List.set_cons_zero, List.set_cons_succ, i64_w, i32_w]
                  rfl
                refine pure_ (i := 5) (N := some 26) (v := ?_) (a' := ?_) #[true, true, true, true, true, true, false, false, false, false] rfl rfl (any_of HT_.out (by kernel_rfl)) (fun _ _ _ h => h) (Or.inl ⟨by rfl, ?_⟩) ?_ ?_
                rotate_left
                · intro w'
                  go_simp
                  with_reducible rfl
                rotate_left
                · simp only [Act.put, List.setIfInBounds_toArray, List.set_cons_zero, List.set_cons_succ, i64_w, i32_w]
                  rfl
                refine pure_ (i := 6) (N := some 32) (v := ?_) (a' := ?_) #[true, true, true, true, true, true, true, false, false, false] rfl rfl (any_of HT_.out (by kernel_rfl)) (fun _ _ _ h => h) (Or.inl ⟨by rfl, ?_⟩) ?_ ?_
                rotate_left
                · intro w'
                  go_simp
                  with_reducible rfl
                rotate_left
                · simp only [Act.put, List.setIfInBounds_toArray, List.set_cons_zero, List.set_cons_succ, i64_w, i32_w]
                  rfl
                refine pure_ (i := 7) (N := some 33) (v := ?_) (a' := ?_) #[true, true, true, true, true, true, true, true, false, false] rfl rfl (any_of HT_.out (by kernel_rfl)) (fun _ _ _ h => h) (Or.inl ⟨by rfl, ?_⟩) ?_ ?_
                rotate_left
                · intro w'
                  go_simp
                  with_reducible rfl
                rotate_left
                · simp only [Act.put, List.setIfInBounds_toArray, List.set_cons_zero, List.set_cons_succ, i64_w, i32_w]
                  rfl
                refine pure_ (i := 8) (N := some 5) (v := ?_) (a' := ?_) #[true, true, true, true, true, true, true, true, true, false] rfl rfl (any_of HT_.out (by kernel_rfl)) (fun _ _ _ h => h) (Or.inl ⟨by rfl, ?_⟩) ?_ ?_
                rotate_left
                · intro w'
                  go_simp
                  with_reducible rfl
                rotate_left
                · simp only [Act.put, List.setIfInBounds_toArray, List.set_cons_zero, List.set_cons_succ, i64_w, i32_w]
                  rfl
                refine pure_ (i := 9) (N := some 6) (v := ?_) (a' := ?_) #[true, true, true, true, true, true, true, true, true, true] rfl rfl (any_of HT_.out (by kernel_rfl)) (fun _ _ _ h => h) (Or.inl ⟨by rfl, ?_⟩) ?_ ?_
                rotate_left
                · intro w'
                  go_simp
                  with_reducible rfl
                rotate_left
                · simp only [Act.put, List.setIfInBounds_toArray, List.set_cons_zero, List.set_cons_succ, i64_w, i32_w]
                  rfl
                refine done_ (done_of HT_.out (by kernel_rfl)) ?_
                try go_wp2
                have n0_ := Aside0.mk (blk_drew BK430.out)
                have n1_ := Aside0.mk (below_drew1 HB.out)
                clear BK430
                clear HB
                have BK430 := n0_
                have HB := n1_
                clear n0_ n1_
                refine start_ (n := 10) (S := fun w' => w'.cell? ⟨gb430, 0, none⟩ = some (.int .i64 a1_0) ∧ w'.cell? ⟨gb430, 1, none⟩ = some (.int .i64 a1_1) ∧ w'.cell? ⟨gb430, 2, none⟩ = some (.int .i64 a1_2) ∧ w'.cell? ⟨gb430, 3, none⟩ = some (.int .i64 0) ∧ w'.cell? ⟨gb430, 4, none⟩ = some (.int .i64 0) ∧ w'.cell? ⟨gb430, 5, none⟩ = some (.int .i64 0)) (ds := []) #[false, false, false, false, false, false, false, false, false, false] (by kernel_rfl) rfl rfl ⟨(blk_cell BK430.out 0).trans rfl, (blk_cell BK430.out 1).trans rfl, (blk_cell BK430.out 2).trans rfl, (blk_cell BK430.out 3).trans rfl, (blk_cell BK430.out 4).trans rfl, (blk_cell BK430.out 5).trans rfl⟩ (fun hHeld => ?_); refine with_tabW laws_FnMonthNames.tab5 laws_FnMonthNames.bits5 (fun HT_ HW_ => ?_)
                generalize w51.drew = w52 at BK430 HB hHeld ⊢
                refine pure_ (i := 0) (N := some 35) (v := ?_) (a' := ?_) #[true, false, false, false, false, false, false, false, false, false] rfl rfl (any_of HT_.out (by kernel_rfl)) (fun _ _ _ h => h) (Or.inl ⟨by rfl, ?_⟩) ?_ ?_
                rotate_left
                · intro w'
                  go_simp
                  with_reducible rfl
                rotate_left
                · simp only [Act.put, List.setIfInBounds_toArray, List.set_cons_zero, List.set_cons_succ, i64_w, i32_w]
                  rfl
                refine take_ (i := 3) (N := some 38) (v := ?_) (a' := ?_) #[true, false, false, true, false, false, false, false, false, false] rfl rfl (take_ofW HT_.out HW_.out (by kernel_rfl)) (fun _ _ _ h => h) (Or.inl ⟨by rfl, ?_⟩) hHeld ?_ ?_
                rotate_left
                · rintro w' ⟨s0, s1, s2, s3, s4, s5⟩
                  go_simp
                  with_reducible rfl
                rotate_left
                · simp only [Act.put, List.setIfInBounds_toArray, List.set_cons_zero, List.set_cons_succ, i64_w, i32_w]
                  rfl
                refine one_ (i := 1) (N := some 36) #[true, true, false, true, false, false, false, false, false, false] rfl rfl (one_of HT_.out (by kernel_rfl)) (by decide) (fun K hK => ?_)
                refine goes_ Tryz.func30 (by kernel_rfl) rfl #[.int .i64 a0] (by rfl) rfl rfl (by (try simp only [List.map_toArray, List.map_cons, List.map_nil]); first | done | rfl | (simp only [List.length_drop, List.length_take]; rfl)) ?_
                with_reducible refine (spec_Month.calls a0 t442 _ A16.out).mono ?_
                rintro e w' ⟨rfl, ⟨nd, rfl⟩⟩
                refine ⟨_, rfl, ?_⟩
                refine hK.out _ _ ⟨(blk_cell BK430.out 0).trans rfl, (blk_cell BK430.out 1).trans rfl, (blk_cell BK430.out 2).trans rfl, (blk_cell BK430.out 3).trans rfl, (blk_cell BK430.out 4).trans rfl, (blk_cell BK430.out 5).trans rfl⟩ (fun hHeld => ?_)
                clear hK K
                refine norm_ (a' := ?_) ?_ ?_
                rotate_left
                · show Act.put _ (some 36) _ = _
                  simp only [Act.put, List.setIfInBounds_toArray, List.set_cons_zero, List.set_cons_succ, i64_w, i32_w]
                  rfl
                refine one_ (i := 2) (N := some 37) #[true, true, true, true, false, false, false, false, false, false] rfl rfl (one_of HT_.out (by kernel_rfl)) (by decide) (fun K hK => ?_)
                refine goes_ Tryz.func15 (by kernel_rfl) rfl #[.int .i64 4, .string t442] (by rfl) rfl rfl (by (try simp only [List.map_toArray, List.map_cons, List.map_nil]); first | done | rfl | (simp only [List.length_drop, List.length_take]; rfl)) ?_
                with_reducible refine (laws_stars.calls kj2 4 t442 t443 _ A17.out).mono ?_
                rintro e w' ⟨rfl, ⟨nd, rfl⟩⟩
                refine ⟨_, rfl, ?_⟩
                refine hK.out _ _ ⟨(blk_cell BK430.out 0).trans rfl, (blk_cell BK430.out 1).trans rfl, (blk_cell BK430.out 2).trans rfl, (blk_cell BK430.out 3).trans rfl, (blk_cell BK430.out 4).trans rfl, (blk_cell BK430.out 5).trans rfl⟩ (fun hHeld => ?_)
                clear hK K
                refine norm_ (a' := ?_) ?_ ?_
                rotate_left
                · show Act.put _ (some 37) _ = _
                  simp only [Act.put, List.setIfInBounds_toArray, List.set_cons_zero, List.set_cons_succ, i64_w, i32_w]
                  rfl
                refine one_ (i := 4) (N := some 39) #[true, true, true, true, true, false, false, false, false, false] rfl rfl (one_of HT_.out (by kernel_rfl)) (by decide) (fun K hK => ?_)
                refine goes_ Tryz.func24 (by kernel_rfl) rfl #[.string t443, .agg #[.int .i64 a1_0, .int .i64 a1_1, .int .i64 a1_2, .int .i64 0, .int .i64 0, .int .i64 0]] (by rfl) rfl rfl (by (try simp only [List.map_toArray, List.map_cons, List.map_nil]); first | done | rfl | (simp only [List.length_drop, List.length_take]; rfl)) ?_
                with_reducible refine (impl_Due.calls t443 a1_0 a1_1 a1_2 0 0 0 t444 true _ A18.out).mono ?_
                rintro e w53 ⟨rfl, hb⟩
                refine ⟨_, rfl, ?_⟩
                have n0_ := Aside0.mk (blk_below (g := gb430) (o := .cells #[.int .i64 a1_0, .int .i64 a1_1, .int .i64 a1_2, .int .i64 0, .int .i64 0, .int .i64 0] 23 (0, 0)) (by (with_reducible repeat (first | refine blk_drewN ?_ _ | refine blk_drew ?_ | refine blk_alloc ?_ _)); exact BK430.out) hb)
                have n1_ := Aside0.mk (below_step (by repeat (first | (with_reducible first | exact HB.out | apply below_alloc | apply pw_below_drewN | apply below_drew1 | refine below_set ?_ GE430.out) | exact HB.out)) hb)
                clear BK430
                clear HB
                have BK430 := n0_
                have HB := n1_
                clear n0_ n1_
                (try clear hb)
                (try clear hb2)
                (try clear hk)
                (try clear hi)
                refine hK.out _ _ ⟨(blk_cell BK430.out 0).trans rfl, (blk_cell BK430.out 1).trans rfl, (blk_cell BK430.out 2).trans rfl, (blk_cell BK430.out 3).trans rfl, (blk_cell BK430.out 4).trans rfl, (blk_cell BK430.out 5).trans rfl⟩ (fun hHeld => ?_)
                clear hK K
                refine norm_ (a' := ?_) ?_ ?_
                rotate_left
                · show Act.put _ (some 39) _ = _
                  simp only [Act.put, List.setIfInBounds_toArray, List.set_cons_zero, List.set_cons_succ, i64_w, i32_w]
                  rfl
                refine pure_ (i := 5) (N := some 34) (v := ?_) (a' := ?_) #[true, true, true, true, true, true, false, false, false, false] rfl rfl (any_of HT_.out (by kernel_rfl)) (fun _ _ _ h => h) (Or.inl ⟨by rfl, ?_⟩) ?_ ?_
                rotate_left
                · intro w'
                  go_simp
                  with_reducible rfl
                rotate_left
                · simp only [Act.put, List.setIfInBounds_toArray, List.set_cons_zero, List.set_cons_succ, i64_w, i32_w]
                  rfl
                refine pure_ (i := 6) (N := some 40) (v := ?_) (a' := ?_) #[true, true, true, true, true, true, true, false, false, false] rfl rfl (any_of HT_.out (by kernel_rfl)) (fun _ _ _ h => h) (Or.inl ⟨by rfl, ?_⟩) ?_ ?_
                rotate_left
                · intro w'
                  go_simp
                  with_reducible rfl
                rotate_left
                · simp only [Act.put, List.setIfInBounds_toArray, List.set_cons_zero, List.set_cons_succ, i64_w, i32_w]
                  rfl
                refine pure_ (i := 7) (N := some 41) (v := ?_) (a' := ?_) #[true, true, true, true, true, true, true, true, false, false] rfl rfl (any_of HT_.out (by kernel_rfl)) (fun _ _ _ h => h) (Or.inl ⟨by rfl, ?_⟩) ?_ ?_
                rotate_left
                · intro w'
                  go_simp
                  with_reducible rfl
                rotate_left
                · simp only [Act.put, List.setIfInBounds_toArray, List.set_cons_zero, List.set_cons_succ, i64_w, i32_w]
                  rfl
                refine pure_ (i := 8) (N := some 7) (v := ?_) (a' := ?_) #[true, true, true, true, true, true, true, true, true, false] rfl rfl (any_of HT_.out (by kernel_rfl)) (fun _ _ _ h => h) (Or.inl ⟨by rfl, ?_⟩) ?_ ?_
                rotate_left
                · intro w'
                  go_simp
                  with_reducible rfl
                rotate_left
                · simp only [Act.put, List.setIfInBounds_toArray, List.set_cons_zero, List.set_cons_succ, i64_w, i32_w]
                  rfl
                refine pure_ (i := 9) (N := some 8) (v := ?_) (a' := ?_) #[true, true, true, true, true, true, true, true, true, true] rfl rfl (any_of HT_.out (by kernel_rfl)) (fun _ _ _ h => h) (Or.inl ⟨by rfl, ?_⟩) ?_ ?_
                rotate_left
                · intro w'
                  go_simp
                  with_reducible rfl
                rotate_left
                · simp only [Act.put, List.setIfInBounds_toArray, List.set_cons_zero, List.set_cons_succ, i64_w, i32_w]
                  rfl
                refine done_ (done_of HT_.out (by kernel_rfl)) ?_
                try go_wp2
                have n0_ := Aside0.mk (blk_drew BK430.out)
                have n1_ := Aside0.mk (below_drew1 HB.out)
                clear BK430
                clear HB
                have BK430 := n0_
                have HB := n1_
                clear n0_ n1_
                refine start_ (n := 11) (S := fun w' => w'.cell? ⟨gb430, 0, none⟩ = some (.int .i64 a1_0) ∧ w'.cell? ⟨gb430, 1, none⟩ = some (.int .i64 a1_1) ∧ w'.cell? ⟨gb430, 2, none⟩ = some (.int .i64 a1_2) ∧ w'.cell? ⟨gb430, 3, none⟩ = some (.int .i64 0) ∧ w'.cell? ⟨gb430, 4, none⟩ = some (.int .i64 0) ∧ w'.cell? ⟨gb430, 5, none⟩ = some (.int .i64 0)) (ds := []) #[false, false, false, false, false, false, false, false, false, false, false] (by kernel_rfl) rfl rfl ⟨(blk_cell BK430.out 0).trans rfl, (blk_cell BK430.out 1).trans rfl, (blk_cell BK430.out 2).trans rfl, (blk_cell BK430.out 3).trans rfl, (blk_cell BK430.out 4).trans rfl, (blk_cell BK430.out 5).trans rfl⟩ (fun hHeld => ?_); refine with_tabW laws_FnMonthNames.tab6 laws_FnMonthNames.bits6 (fun HT_ HW_ => ?_)
                generalize w53.drew = w54 at BK430 HB hHeld ⊢
                refine pure_ (i := 0) (N := some 43) (v := ?_) (a' := ?_) #[true, false, false, false, false, false, false, false, false, false, false] rfl rfl (any_of HT_.out (by kernel_rfl)) (fun _ _ _ h => h) (Or.inl ⟨by rfl, ?_⟩) ?_ ?_
                rotate_left
                · intro w'
                  go_simp
                  with_reducible rfl
                rotate_left
                · simp only [Act.put, List.setIfInBounds_toArray, List.set_cons_zero, List.set_cons_succ, i64_w, i32_w]
                  rfl
                refine take_ (i := 4) (N := some 47) (v := ?_) (a' := ?_) #[true, false, false, false, true, false, false, false, false, false, false] rfl rfl (take_ofW HT_.out HW_.out (by kernel_rfl)) (fun _ _ _ h => h) (Or.inl ⟨by rfl, ?_⟩) hHeld ?_ ?_
                rotate_left
                · rintro w' ⟨s0, s1, s2, s3, s4, s5⟩
                  go_simp
                  with_reducible rfl
                rotate_left
                · simp only [Act.put, List.setIfInBounds_toArray, List.set_cons_zero, List.set_cons_succ, i64_w, i32_w]
                  rfl
                refine one_ (i := 1) (N := some 44) #[true, true, false, false, true, false, false, false, false, false, false] rfl rfl (one_of HT_.out (by kernel_rfl)) (by decide) (fun K hK => ?_)
                refine goes_ Tryz.func30 (by kernel_rfl) rfl #[.int .i64 a0] (by rfl) rfl rfl (by (try simp only [List.map_toArray, List.map_cons, List.map_nil]); first | done | rfl | (simp only [List.length_drop, List.length_take]; rfl)) ?_
                with_reducible refine (spec_Month.calls a0 t446 _ A19.out).mono ?_
                rintro e w' ⟨rfl, ⟨nd, rfl⟩⟩
                refine ⟨_, rfl, ?_⟩
                refine hK.out _ _ ⟨(blk_cell BK430.out 0).trans rfl, (blk_cell BK430.out 1).trans rfl, (blk_cell BK430.out 2).trans rfl, (blk_cell BK430.out 3).trans rfl, (blk_cell BK430.out 4).trans rfl, (blk_cell BK430.out 5).trans rfl⟩ (fun hHeld => ?_)
                clear hK K
                refine norm_ (a' := ?_) ?_ ?_
                rotate_left
                · show Act.put _ (some 44) _ = _
                  simp only [Act.put, List.setIfInBounds_toArray, List.set_cons_zero, List.set_cons_succ, i64_w, i32_w]
                  rfl
                refine one_ (i := 2) (N := some 45) #[true, true, true, false, true, false, false, false, false, false, false] rfl rfl (one_of HT_.out (by kernel_rfl)) (by decide) (fun K hK => ?_)
                refine goes_ Tryz.func26 (by kernel_rfl) rfl #[.string t446] (by rfl) rfl rfl (by (try simp only [List.map_toArray, List.map_cons, List.map_nil]); first | done | rfl | (simp only [List.length_drop, List.length_take]; rfl)) ?_
                with_reducible refine (spec_Lower.calls t446 t447 _ A20.out).mono ?_
                rintro e w55 ⟨rfl, hb⟩
                refine ⟨_, rfl, ?_⟩
                have n0_ := Aside0.mk (blk_below (g := gb430) (o := .cells #[.int .i64 a1_0, .int .i64 a1_1, .int .i64 a1_2, .int .i64 0, .int .i64 0, .int .i64 0] 23 (0, 0)) (by (with_reducible repeat (first | refine blk_drewN ?_ _ | refine blk_drew ?_ | refine blk_alloc ?_ _)); exact BK430.out) hb)
                have n1_ := Aside0.mk (below_step (by repeat (first | (with_reducible first | exact HB.out | apply below_alloc | apply pw_below_drewN | apply below_drew1 | refine below_set ?_ GE430.out) | exact HB.out)) hb)
                clear BK430
                clear HB
                have BK430 := n0_
                have HB := n1_
                clear n0_ n1_
                (try clear hb)
                (try clear hb2)
                (try clear hk)
                (try clear hi)
                refine hK.out _ _ ⟨(blk_cell BK430.out 0).trans rfl, (blk_cell BK430.out 1).trans rfl, (blk_cell BK430.out 2).trans rfl, (blk_cell BK430.out 3).trans rfl, (blk_cell BK430.out 4).trans rfl, (blk_cell BK430.out 5).trans rfl⟩ (fun hHeld => ?_)
                clear hK K
                refine norm_ (a' := ?_) ?_ ?_
                rotate_left
                · show Act.put _ (some 45) _ = _
                  simp only [Act.put, List.setIfInBounds_toArray, List.set_cons_zero, List.set_cons_succ, i64_w, i32_w]
                  rfl
                refine one_ (i := 3) (N := some 46) #[true, true, true, true, true, false, false, false, false, false, false] rfl rfl (one_of HT_.out (by kernel_rfl)) (by decide) (fun K hK => ?_)
                refine goes_ Tryz.func15 (by kernel_rfl) rfl #[.int .i64 4, .string t447] (by rfl) rfl rfl (by (try simp only [List.map_toArray, List.map_cons, List.map_nil]); first | done | rfl | (simp only [List.length_drop, List.length_take]; rfl)) ?_
                with_reducible refine (laws_stars.calls kj2 4 t447 t448 _ A21.out).mono ?_
                rintro e w' ⟨rfl, ⟨nd, rfl⟩⟩
                refine ⟨_, rfl, ?_⟩
                refine hK.out _ _ ⟨(blk_cell BK430.out 0).trans rfl, (blk_cell BK430.out 1).trans rfl, (blk_cell BK430.out 2).trans rfl, (blk_cell BK430.out 3).trans rfl, (blk_cell BK430.out 4).trans rfl, (blk_cell BK430.out 5).trans rfl⟩ (fun hHeld => ?_)
                clear hK K
                refine norm_ (a' := ?_) ?_ ?_
                rotate_left
                · show Act.put _ (some 46) _ = _
                  simp only [Act.put, List.setIfInBounds_toArray, List.set_cons_zero, List.set_cons_succ, i64_w, i32_w]
                  rfl
                refine one_ (i := 5) (N := some 48) #[true, true, true, true, true, true, false, false, false, false, false] rfl rfl (one_of HT_.out (by kernel_rfl)) (by decide) (fun K hK => ?_)
                refine goes_ Tryz.func24 (by kernel_rfl) rfl #[.string t448, .agg #[.int .i64 a1_0, .int .i64 a1_1, .int .i64 a1_2, .int .i64 0, .int .i64 0, .int .i64 0]] (by rfl) rfl rfl (by (try simp only [List.map_toArray, List.map_cons, List.map_nil]); first | done | rfl | (simp only [List.length_drop, List.length_take]; rfl)) ?_
                with_reducible refine (impl_Due.calls t448 a1_0 a1_1 a1_2 0 0 0 t449 true _ A22.out).mono ?_
                rintro e w56 ⟨rfl, hb⟩
                refine ⟨_, rfl, ?_⟩
                have n0_ := Aside0.mk (blk_below (g := gb430) (o := .cells #[.int .i64 a1_0, .int .i64 a1_1, .int .i64 a1_2, .int .i64 0, .int .i64 0, .int .i64 0] 23 (0, 0)) (by (with_reducible repeat (first | refine blk_drewN ?_ _ | refine blk_drew ?_ | refine blk_alloc ?_ _)); exact BK430.out) hb)
                have n1_ := Aside0.mk (below_step (by repeat (first | (with_reducible first | exact HB.out | apply below_alloc | apply pw_below_drewN | apply below_drew1 | refine below_set ?_ GE430.out) | exact HB.out)) hb)
                clear BK430
                clear HB
                have BK430 := n0_
                have HB := n1_
                clear n0_ n1_
                (try clear hb)
                (try clear hb2)
                (try clear hk)
                (try clear hi)
                refine hK.out _ _ ⟨(blk_cell BK430.out 0).trans rfl, (blk_cell BK430.out 1).trans rfl, (blk_cell BK430.out 2).trans rfl, (blk_cell BK430.out 3).trans rfl, (blk_cell BK430.out 4).trans rfl, (blk_cell BK430.out 5).trans rfl⟩ (fun hHeld => ?_)
                clear hK K
                refine norm_ (a' := ?_) ?_ ?_
                rotate_left
                · show Act.put _ (some 48) _ = _
                  simp only [Act.put, List.setIfInBounds_toArray, List.set_cons_zero, List.set_cons_succ, i64_w, i32_w]
                  rfl
                refine pure_ (i := 6) (N := some 42) (v := ?_) (a' := ?_) #[true, true, true, true, true, true, true, false, false, false, false] rfl rfl (any_of HT_.out (by kernel_rfl)) (fun _ _ _ h => h) (Or.inl ⟨by rfl, ?_⟩) ?_ ?_
                rotate_left
                · intro w'
                  go_simp
                  with_reducible rfl
                rotate_left
                · simp only [Act.put, List.setIfInBounds_toArray, List.set_cons_zero, List.set_cons_succ, i64_w, i32_w]
                  rfl
                refine pure_ (i := 7) (N := some 49) (v := ?_) (a' := ?_) #[true, true, true, true, true, true, true, true, false, false, false] rfl rfl (any_of HT_.out (by kernel_rfl)) (fun _ _ _ h => h) (Or.inl ⟨by rfl, ?_⟩) ?_ ?_
                rotate_left
                · intro w'
                  go_simp
                  with_reducible rfl
                rotate_left
                · simp only [Act.put, List.setIfInBounds_toArray, List.set_cons_zero, List.set_cons_succ, i64_w, i32_w]
                  rfl
                refine pure_ (i := 8) (N := some 50) (v := ?_) (a' := ?_) #[true, true, true, true, true, true, true, true, true, false, false] rfl rfl (any_of HT_.out (by kernel_rfl)) (fun _ _ _ h => h) (Or.inl ⟨by rfl, ?_⟩) ?_ ?_
                rotate_left
                · intro w'
                  go_simp
                  with_reducible rfl
                rotate_left
                · simp only [Act.put, List.setIfInBounds_toArray, List.set_cons_zero, List.set_cons_succ, i64_w, i32_w]
                  rfl
                refine pure_ (i := 9) (N := some 9) (v := ?_) (a' := ?_) #[true, true, true, true, true, true, true, true, true, true, false] rfl rfl (any_of HT_.out (by kernel_rfl)) (fun _ _ _ h => h) (Or.inl ⟨by rfl, ?_⟩) ?_ ?_
                rotate_left
                · intro w'
                  go_simp
                  with_reducible rfl
                rotate_left
                · simp only [Act.put, List.setIfInBounds_toArray, List.set_cons_zero, List.set_cons_succ, i64_w, i32_w]
                  rfl
                refine pure_ (i := 10) (N := some 10) (v := ?_) (a' := ?_) #[true, true, true, true, true, true, true, true, true, true, true] rfl rfl (any_of HT_.out (by kernel_rfl)) (fun _ _ _ h => h) (Or.inl ⟨by rfl, ?_⟩) ?_ ?_
                rotate_left
                · intro w'
                  go_simp
                  with_reducible rfl
                rotate_left
                · simp only [Act.put, List.setIfInBounds_toArray, List.set_cons_zero, List.set_cons_succ, i64_w, i32_w]
                  rfl
                refine done_ (done_of HT_.out (by kernel_rfl)) ?_
                have hcz57_0 : w56.cell? ⟨gb430, 0, none⟩ = some (.int .i64 a1_0) := (blk_cell BK430.out 0).trans rfl
                have hcz57_1 : w56.cell? ⟨gb430, 1, none⟩ = some (.int .i64 a1_1) := (blk_cell BK430.out 1).trans rfl
                have hcz57_2 : w56.cell? ⟨gb430, 2, none⟩ = some (.int .i64 a1_2) := (blk_cell BK430.out 2).trans rfl
                have hcz57_3 : w56.cell? ⟨gb430, 3, none⟩ = some (.int .i64 0) := (blk_cell BK430.out 3).trans rfl
                have hcz57_4 : w56.cell? ⟨gb430, 4, none⟩ = some (.int .i64 0) := (blk_cell BK430.out 4).trans rfl
                have hcz57_5 : w56.cell? ⟨gb430, 5, none⟩ = some (.int .i64 0) := (blk_cell BK430.out 5).trans rfl
                have hfz57_0 := blk_frozen BK430.out 0
                have hfz57_1 := blk_frozen BK430.out 1
                have hfz57_2 := blk_frozen BK430.out 2
                have hfz57_3 := blk_frozen BK430.out 3
                have hfz57_4 := blk_frozen BK430.out 4
                have hfz57_5 := blk_frozen BK430.out 5
                try go_wp2
                go_ret
                exact ⟨by first | rfl | (simp [errW_none, errW_some] <;> rfl) | (simp [*, errW_none, errW_some] <;> rfl), by repeat (first | (with_reducible first | exact HB.out | apply below_alloc | apply pw_below_drewN | apply below_drew1 | refine below_set ?_ GE430.out) | exact HB.out)⟩
            · replace c25 := Bool.eq_false_iff.mpr c25
              subst c25
              have H1 : (some false) = some r := by rw [if_neg (show ¬ (false = true) by decide)] at H; exact H
              clear H
              have H := H1
              clear H1
              obtain rfl := Option.some.inj H
              have hcz58_0 : wc.cell? ⟨gb430, 0, none⟩ = some (.int .i64 a1_0) := (blk_cell BK430.out 0).trans rfl
              have hcz58_1 : wc.cell? ⟨gb430, 1, none⟩ = some (.int .i64 a1_1) := (blk_cell BK430.out 1).trans rfl
              have hcz58_2 : wc.cell? ⟨gb430, 2, none⟩ = some (.int .i64 a1_2) := (blk_cell BK430.out 2).trans rfl
              have hcz58_3 : wc.cell? ⟨gb430, 3, none⟩ = some (.int .i64 a1_3) := (blk_cell BK430.out 3).trans rfl
              have hcz58_4 : wc.cell? ⟨gb430, 4, none⟩ = some (.int .i64 a1_4) := (blk_cell BK430.out 4).trans rfl
              have hcz58_5 : wc.cell? ⟨gb430, 5, none⟩ = some (.int .i64 a1_5) := (blk_cell BK430.out 5).trans rfl
              have hfz58_0 := blk_frozen BK430.out 0
              have hfz58_1 := blk_frozen BK430.out 1
              have hfz58_2 := blk_frozen BK430.out 2
              have hfz58_3 := blk_frozen BK430.out 3
              have hfz58_4 := blk_frozen BK430.out 4
              have hfz58_5 := blk_frozen BK430.out 5
              try go_wp2
              have n0_ : Aside0 ((((wc.setCell ⟨gb430, 3, none⟩ (.int .i64 0)).setCell ⟨gb430, 4, none⟩ (.int .i64 0)).setCell ⟨gb430, 5, none⟩ (.int .i64 0)).heap[gb430]? = some (.cells #[.int .i64 a1_0, .int .i64 a1_1, .int .i64 a1_2, .int .i64 0, .int .i64 0, .int .i64 0] 23 (0, 0))) := ⟨by (with_reducible repeat (first | refine blk_drewN ?_ _ | refine blk_drew ?_ | refine blk_alloc ?_ _)); refine blk_put (cs := #[.int .i64 a1_0, .int .i64 a1_1, .int .i64 a1_2, .int .i64 0, .int .i64 0, .int .i64 a1_5]) ?_ 5 _ rfl; (with_reducible repeat (first | refine blk_drewN ?_ _ | refine blk_drew ?_ | refine blk_alloc ?_ _)); refine blk_put (cs := #[.int .i64 a1_0, .int .i64 a1_1, .int .i64 a1_2, .int .i64 0, .int .i64 a1_4, .int .i64 a1_5]) ?_ 4 _ rfl; (with_reducible repeat (first | refine blk_drewN ?_ _ | refine blk_drew ?_ | refine blk_alloc ?_ _)); refine blk_put (cs := #[.int .i64 a1_0, .int .i64 a1_1, .int .i64 a1_2, .int .i64 a1_3, .int .i64 a1_4, .int .i64 a1_5]) ?_ 3 _ rfl; (with_reducible repeat (first | refine blk_drewN ?_ _ | refine blk_drew ?_ | refine blk_alloc ?_ _)); exact BK430.out⟩
              have n1_ : Aside0 (Below w.heap.size w (((wc.setCell ⟨gb430, 3, none⟩ (.int .i64 0)).setCell ⟨gb430, 4, none⟩ (.int .i64 0)).setCell ⟨gb430, 5, none⟩ (.int .i64 0))) := ⟨by repeat (first | (with_reducible first | exact HB.out | apply below_alloc | apply pw_below_drewN | apply below_drew1 | refine below_set ?_ GE430.out) | exact HB.out)⟩
              (try clear BK430)
              (try clear HB)
              generalize (((wc.setCell ⟨gb430, 3, none⟩ (.int .i64 0)).setCell ⟨gb430, 4, none⟩ (.int .i64 0)).setCell ⟨gb430, 5, none⟩ (.int .i64 0)) = w59 at n0_ n1_ ⊢
              have BK430 := n0_
              have HB := n1_
              clear n0_ n1_
              have n0_ := Aside0.mk (blk_drew BK430.out)
              have n1_ := Aside0.mk (below_drew1 HB.out)
              clear BK430
              clear HB
              have BK430 := n0_
              have HB := n1_
              clear n0_ n1_
              refine start_ (n := 10) (S := fun w' => w'.cell? ⟨gb430, 0, none⟩ = some (.int .i64 a1_0) ∧ w'.cell? ⟨gb430, 1, none⟩ = some (.int .i64 a1_1) ∧ w'.cell? ⟨gb430, 2, none⟩ = some (.int .i64 a1_2) ∧ w'.cell? ⟨gb430, 3, none⟩ = some (.int .i64 0) ∧ w'.cell? ⟨gb430, 4, none⟩ = some (.int .i64 0) ∧ w'.cell? ⟨gb430, 5, none⟩ = some (.int .i64 0)) (ds := []) #[false, false, false, false, false, false, false, false, false, false] (by kernel_rfl) rfl rfl ⟨(blk_cell BK430.out 0).trans rfl, (blk_cell BK430.out 1).trans rfl, (blk_cell BK430.out 2).trans rfl, (blk_cell BK430.out 3).trans rfl, (blk_cell BK430.out 4).trans rfl, (blk_cell BK430.out 5).trans rfl⟩ (fun hHeld => ?_); refine with_tabW laws_FnMonthNames.tab4 laws_FnMonthNames.bits4 (fun HT_ HW_ => ?_)
              generalize w59.drew = w60 at BK430 HB hHeld ⊢
              refine pure_ (i := 0) (N := some 27) (v := ?_) (a' := ?_) #[true, false, false, false, false, false, false, false, false, false] rfl rfl (any_of HT_.out (by kernel_rfl)) (fun _ _ _ h => h) (Or.inl ⟨by rfl, ?_⟩) ?_ ?_
              rotate_left
              · intro w'
                go_simp
                with_reducible rfl
              rotate_left
              · simp only [Act.put, List.setIfInBounds_toArray, List.set_cons_zero, List.set_cons_succ, i64_w, i32_w]
                rfl
              refine take_ (i := 3) (N := some 30) (v := ?_) (a' := ?_) #[true, false, false, true, false, false, false, false, false, false] rfl rfl (take_ofW HT_.out HW_.out (by kernel_rfl)) (fun _ _ _ h => h) (Or.inl ⟨by rfl, ?_⟩) hHeld ?_ ?_
              rotate_left
              · rintro w' ⟨s0, s1, s2, s3, s4, s5⟩
                go_simp
                with_reducible rfl
              rotate_left
              · simp only [Act.put, List.setIfInBounds_toArray, List.set_cons_zero, List.set_cons_succ, i64_w, i32_w]
                rfl
              refine one_ (i := 1) (N := some 28) #[true, true, false, true, false, false, false, false, false, false] rfl rfl (one_of HT_.out (by kernel_rfl)) (by decide) (fun K hK => ?_)
              refine goes_ Tryz.func16 (by kernel_rfl) rfl #[.int .i64 a0] (by rfl) rfl rfl (by (try simp only [List.map_toArray, List.map_cons, List.map_nil]); first | done | rfl | (simp only [List.length_drop, List.length_take]; rfl)) ?_
              with_reducible refine (spec_Decimal.calls kj2 a0 t438 _ A13.out).mono ?_
              rintro e w' ⟨rfl, ⟨nd, rfl⟩⟩
              refine ⟨_, rfl, ?_⟩
              refine hK.out _ _ ⟨(blk_cell BK430.out 0).trans rfl, (blk_cell BK430.out 1).trans rfl, (blk_cell BK430.out 2).trans rfl, (blk_cell BK430.out 3).trans rfl, (blk_cell BK430.out 4).trans rfl, (blk_cell BK430.out 5).trans rfl⟩ (fun hHeld => ?_)
              clear hK K
              refine norm_ (a' := ?_) ?_ ?_
              rotate_left
              · show Act.put _ (some 28) _ = _
                simp only [Act.put, List.setIfInBounds_toArray, List.set_cons_zero, List.set_cons_succ, i64_w, i32_w]
                rfl
              refine one_ (i := 2) (N := some 29) #[true, true, true, true, false, false, false, false, false, false] rfl rfl (one_of HT_.out (by kernel_rfl)) (by decide) (fun K hK => ?_)
              refine goes_ Tryz.func15 (by kernel_rfl) rfl #[.int .i64 4, .string t438] (by rfl) rfl rfl (by (try simp only [List.map_toArray, List.map_cons, List.map_nil]); first | done | rfl | (simp only [List.length_drop, List.length_take]; rfl)) ?_
              with_reducible refine (laws_stars.calls kj2 4 t438 t439 _ A14.out).mono ?_
              rintro e w' ⟨rfl, ⟨nd, rfl⟩⟩
              refine ⟨_, rfl, ?_⟩
              refine hK.out _ _ ⟨(blk_cell BK430.out 0).trans rfl, (blk_cell BK430.out 1).trans rfl, (blk_cell BK430.out 2).trans rfl, (blk_cell BK430.out 3).trans rfl, (blk_cell BK430.out 4).trans rfl, (blk_cell BK430.out 5).trans rfl⟩ (fun hHeld => ?_)
              clear hK K
              refine norm_ (a' := ?_) ?_ ?_
              rotate_left
              · show Act.put _ (some 29) _ = _
                simp only [Act.put, List.setIfInBounds_toArray, List.set_cons_zero, List.set_cons_succ, i64_w, i32_w]
                rfl
              refine one_ (i := 4) (N := some 31) #[true, true, true, true, true, false, false, false, false, false] rfl rfl (one_of HT_.out (by kernel_rfl)) (by decide) (fun K hK => ?_)
              refine goes_ Tryz.func24 (by kernel_rfl) rfl #[.string t439, .agg #[.int .i64 a1_0, .int .i64 a1_1, .int .i64 a1_2, .int .i64 0, .int .i64 0, .int .i64 0]] (by rfl) rfl rfl (by (try simp only [List.map_toArray, List.map_cons, List.map_nil]); first | done | rfl | (simp only [List.length_drop, List.length_take]; rfl)) ?_
              with_reducible refine (impl_Due.calls t439 a1_0 a1_1 a1_2 0 0 0 t440 true _ A15.out).mono ?_
              rintro e w61 ⟨rfl, hb⟩
              refine ⟨_, rfl, ?_⟩
              have n0_ := Aside0.mk (blk_below (g := gb430) (o := .cells #[.int .i64 a1_0, .int .i64 a1_1, .int .i64 a1_2, .int .i64 0, .int .i64 0, .int .i64 0] 23 (0, 0)) (by (with_reducible repeat (first | refine blk_drewN ?_ _ | refine blk_drew ?_ | refine blk_alloc ?_ _)); exact BK430.out) hb)
              have n1_ := Aside0.mk (below_step (by repeat (first | (with_reducible first | exact HB.out | apply below_alloc | apply pw_below_drewN | apply below_drew1 | refine below_set ?_ GE430.out) | exact HB.out)) hb)
              clear BK430
              clear HB
              have BK430 := n0_
              have HB := n1_
              clear n0_ n1_
              (try clear hb)
              (try clear hb2)
              (try clear hk)
              (try clear hi)
              refine hK.out _ _ ⟨(blk_cell BK430.out 0).trans rfl, (blk_cell BK430.out 1).trans rfl, (blk_cell BK430.out 2).trans rfl, (blk_cell BK430.out 3).trans rfl, (blk_cell BK430.out 4).trans rfl, (blk_cell BK430.out 5).trans rfl⟩ (fun hHeld => ?_)
              clear hK K
              refine norm_ (a' := ?_) ?_ ?_
              rotate_left
              · show Act.put _ (some 31) _ = _
                simp only [Act.put, List.setIfInBounds_toArray, List.set_cons_zero, List.set_cons_succ, i64_w, i32_w]
                rfl
              refine pure_ (i := 5) (N := some 26) (v := ?_) (a' := ?_) #[true, true, true, true, true, true, false, false, false, false] rfl rfl (any_of HT_.out (by kernel_rfl)) (fun _ _ _ h => h) (Or.inl ⟨by rfl, ?_⟩) ?_ ?_
              rotate_left
              · intro w'
                go_simp
                with_reducible rfl
              rotate_left
              · simp only [Act.put, List.setIfInBounds_toArray, List.set_cons_zero, List.set_cons_succ, i64_w, i32_w]
                rfl
              refine pure_ (i := 6) (N := some 32) (v := ?_) (a' := ?_) #[true, true, true, true, true, true, true, false, false, false] rfl rfl (any_of HT_.out (by kernel_rfl)) (fun _ _ _ h => h) (Or.inl ⟨by rfl, ?_⟩) ?_ ?_
              rotate_left
              · intro w'
                go_simp
                with_reducible rfl
              rotate_left
              · simp only [Act.put, List.setIfInBounds_toArray, List.set_cons_zero, List.set_cons_succ, i64_w, i32_w]
                rfl
              refine pure_ (i := 7) (N := some 33) (v := ?_) (a' := ?_) #[true, true, true, true, true, true, true, true, false, false] rfl rfl (any_of HT_.out (by kernel_rfl)) (fun _ _ _ h => h) (Or.inl ⟨by rfl, ?_⟩) ?_ ?_
              rotate_left
              · intro w'
                go_simp
                with_reducible rfl
              rotate_left
              · simp only [Act.put, List.setIfInBounds_toArray, List.set_cons_zero, List.set_cons_succ, i64_w, i32_w]
                rfl
              refine pure_ (i := 8) (N := some 5) (v := ?_) (a' := ?_) #[true, true, true, true, true, true, true, true, true, false] rfl rfl (any_of HT_.out (by kernel_rfl)) (fun _ _ _ h => h) (Or.inl ⟨by rfl, ?_⟩) ?_ ?_
              rotate_left
              · intro w'
                go_simp
                with_reducible rfl
              rotate_left
              · simp only [Act.put, List.setIfInBounds_toArray, List.set_cons_zero, List.set_cons_succ, i64_w, i32_w]
                rfl
              refine pure_ (i := 9) (N := some 6) (v := ?_) (a' := ?_) #[true, true, true, true, true, true, true, true, true, true] rfl rfl (any_of HT_.out (by kernel_rfl)) (fun _ _ _ h => h) (Or.inl ⟨by rfl, ?_⟩) ?_ ?_
              rotate_left
              · intro w'
                go_simp
                with_reducible rfl
              rotate_left
              · simp only [Act.put, List.setIfInBounds_toArray, List.set_cons_zero, List.set_cons_succ, i64_w, i32_w]
                rfl
              refine done_ (done_of HT_.out (by kernel_rfl)) ?_
              try go_wp2
              have n0_ := Aside0.mk (blk_drew BK430.out)
              have n1_ := Aside0.mk (below_drew1 HB.out)
              clear BK430
              clear HB
              have BK430 := n0_
              have HB := n1_
              clear n0_ n1_
              refine start_ (n := 10) (S := fun w' => w'.cell? ⟨gb430, 0, none⟩ = some (.int .i64 a1_0) ∧ w'.cell? ⟨gb430, 1, none⟩ = some (.int .i64 a1_1) ∧ w'.cell? ⟨gb430, 2, none⟩ = some (.int .i64 a1_2) ∧ w'.cell? ⟨gb430, 3, none⟩ = some (.int .i64 0) ∧ w'.cell? ⟨gb430, 4, none⟩ = some (.int .i64 0) ∧ w'.cell? ⟨gb430, 5, none⟩ = some (.int .i64 0)) (ds := []) #[false, false, false, false, false, false, false, false, false, false] (by kernel_rfl) rfl rfl ⟨(blk_cell BK430.out 0).trans rfl, (blk_cell BK430.out 1).trans rfl, (blk_cell BK430.out 2).trans rfl, (blk_cell BK430.out 3).trans rfl, (blk_cell BK430.out 4).trans rfl, (blk_cell BK430.out 5).trans rfl⟩ (fun hHeld => ?_); refine with_tabW laws_FnMonthNames.tab5 laws_FnMonthNames.bits5 (fun HT_ HW_ => ?_)
              generalize w61.drew = w62 at BK430 HB hHeld ⊢
              refine pure_ (i := 0) (N := some 35) (v := ?_) (a' := ?_) #[true, false, false, false, false, false, false, false, false, false] rfl rfl (any_of HT_.out (by kernel_rfl)) (fun _ _ _ h => h) (Or.inl ⟨by rfl, ?_⟩) ?_ ?_
              rotate_left
              · intro w'
                go_simp
                with_reducible rfl
              rotate_left
              · simp only [Act.put, List.setIfInBounds_toArray, List.set_cons_zero, List.set_cons_succ, i64_w, i32_w]
                rfl
              refine take_ (i := 3) (N := some 38) (v := ?_) (a' := ?_) #[true, false, false, true, false, false, false, false, false, false] rfl rfl (take_ofW HT_.out HW_.out (by kernel_rfl)) (fun _ _ _ h => h) (Or.inl ⟨by rfl, ?_⟩) hHeld ?_ ?_
              rotate_left
              · rintro w' ⟨s0, s1, s2, s3, s4, s5⟩
                go_simp
                with_reducible rfl
              rotate_left
              · simp only [Act.put, List.setIfInBounds_toArray, List.set_cons_zero, List.set_cons_succ, i64_w, i32_w]
                rfl
              refine one_ (i := 1) (N := some 36) #[true, true, false, true, false, false, false, false, false, false] rfl rfl (one_of HT_.out (by kernel_rfl)) (by decide) (fun K hK => ?_)
              refine goes_ Tryz.func30 (by kernel_rfl) rfl #[.int .i64 a0] (by rfl) rfl rfl (by (try simp only [List.map_toArray, List.map_cons, List.map_nil]); first | done | rfl | (simp only [List.length_drop, List.length_take]; rfl)) ?_
              with_reducible refine (spec_Month.calls a0 t442 _ A16.out).mono ?_
              rintro e w' ⟨rfl, ⟨nd, rfl⟩⟩
              refine ⟨_, rfl, ?_⟩
              refine hK.out _ _ ⟨(blk_cell BK430.out 0).trans rfl, (blk_cell BK430.out 1).trans rfl, (blk_cell BK430.out 2).trans rfl, (blk_cell BK430.out 3).trans rfl, (blk_cell BK430.out 4).trans rfl, (blk_cell BK430.out 5).trans rfl⟩ (fun hHeld => ?_)
              clear hK K
              refine norm_ (a' := ?_) ?_ ?_
              rotate_left
              · show Act.put _ (some 36) _ = _
                simp only [Act.put, List.setIfInBounds_toArray, List.set_cons_zero, List.set_cons_succ, i64_w, i32_w]
                rfl
              refine one_ (i := 2) (N := some 37) #[true, true, true, true, false, false, false, false, false, false] rfl rfl (one_of HT_.out (by kernel_rfl)) (by decide) (fun K hK => ?_)
              refine goes_ Tryz.func15 (by kernel_rfl) rfl #[.int .i64 4, .string t442] (by rfl) rfl rfl (by (try simp only [List.map_toArray, List.map_cons, List.map_nil]); first | done | rfl | (simp only [List.length_drop, List.length_take]; rfl)) ?_
              with_reducible refine (laws_stars.calls kj2 4 t442 t443 _ A17.out).mono ?_
              rintro e w' ⟨rfl, ⟨nd, rfl⟩⟩
              refine ⟨_, rfl, ?_⟩
              refine hK.out _ _ ⟨(blk_cell BK430.out 0).trans rfl, (blk_cell BK430.out 1).trans rfl, (blk_cell BK430.out 2).trans rfl, (blk_cell BK430.out 3).trans rfl, (blk_cell BK430.out 4).trans rfl, (blk_cell BK430.out 5).trans rfl⟩ (fun hHeld => ?_)
              clear hK K
              refine norm_ (a' := ?_) ?_ ?_
              rotate_left
              · show Act.put _ (some 37) _ = _
                simp only [Act.put, List.setIfInBounds_toArray, List.set_cons_zero, List.set_cons_succ, i64_w, i32_w]
                rfl
              refine one_ (i := 4) (N := some 39) #[true, true, true, true, true, false, false, false, false, false] rfl rfl (one_of HT_.out (by kernel_rfl)) (by decide) (fun K hK => ?_)
              refine goes_ Tryz.func24 (by kernel_rfl) rfl #[.string t443, .agg #[.int .i64 a1_0, .int .i64 a1_1, .int .i64 a1_2, .int .i64 0, .int .i64 0, .int .i64 0]] (by rfl) rfl rfl (by (try simp only [List.map_toArray, List.map_cons, List.map_nil]); first | done | rfl | (simp only [List.length_drop, List.length_take]; rfl)) ?_
              with_reducible refine (impl_Due.calls t443 a1_0 a1_1 a1_2 0 0 0 t444 true _ A18.out).mono ?_
              rintro e w63 ⟨rfl, hb⟩
              refine ⟨_, rfl, ?_⟩
              have n0_ := Aside0.mk (blk_below (g := gb430) (o := .cells #[.int .i64 a1_0, .int .i64 a1_1, .int .i64 a1_2, .int .i64 0, .int .i64 0, .int .i64 0] 23 (0, 0)) (by (with_reducible repeat (first | refine blk_drewN ?_ _ | refine blk_drew ?_ | refine blk_alloc ?_ _)); exact BK430.out) hb)
              have n1_ := Aside0.mk (below_step (by repeat (first | (with_reducible first | exact HB.out | apply below_alloc | apply pw_below_drewN | apply below_drew1 | refine below_set ?_ GE430.out) | exact HB.out)) hb)
              clear BK430
              clear HB
              have BK430 := n0_
              have HB := n1_
              clear n0_ n1_
              (try clear hb)
              (try clear hb2)
              (try clear hk)
              (try clear hi)
              refine hK.out _ _ ⟨(blk_cell BK430.out 0).trans rfl, (blk_cell BK430.out 1).trans rfl, (blk_cell BK430.out 2).trans rfl, (blk_cell BK430.out 3).trans rfl, (blk_cell BK430.out 4).trans rfl, (blk_cell BK430.out 5).trans rfl⟩ (fun hHeld => ?_)
              clear hK K
              refine norm_ (a' := ?_) ?_ ?_
              rotate_left
              · show Act.put _ (some 39) _ = _
                simp only [Act.put, List.setIfInBounds_toArray, List.set_cons_zero, List.set_cons_succ, i64_w, i32_w]
                rfl
              refine pure_ (i := 5) (N := some 34) (v := ?_) (a' := ?_) #[true, true, true, true, true, true, false, false, false, false] rfl rfl (any_of HT_.out (by kernel_rfl)) (fun _ _ _ h => h) (Or.inl ⟨by rfl, ?_⟩) ?_ ?_
              rotate_left
              · intro w'
                go_simp
                with_reducible rfl
              rotate_left
              · simp only [Act.put, List.setIfInBounds_toArray, List.set_cons_zero, List.set_cons_succ, i64_w, i32_w]
                rfl
              refine pure_ (i := 6) (N := some 40) (v := ?_) (a' := ?_) #[true, true, true, true, true, true, true, false, false, false] rfl rfl (any_of HT_.out (by kernel_rfl)) (fun _ _ _ h => h) (Or.inl ⟨by rfl, ?_⟩) ?_ ?_
              rotate_left
              · intro w'
                go_simp
                with_reducible rfl
              rotate_left
              · simp only [Act.put, List.setIfInBounds_toArray, List.set_cons_zero, List.set_cons_succ, i64_w, i32_w]
                rfl
              refine pure_ (i := 7) (N := some 41) (v := ?_) (a' := ?_) #[true, true, true, true, true, true, true, true, false, false] rfl rfl (any_of HT_.out (by kernel_rfl)) (fun _ _ _ h => h) (Or.inl ⟨by rfl, ?_⟩) ?_ ?_
              rotate_left
              · intro w'
                go_simp
                with_reducible rfl
              rotate_left
              · simp only [Act.put, List.setIfInBounds_toArray, List.set_cons_zero, List.set_cons_succ, i64_w, i32_w]
                rfl
              refine pure_ (i := 8) (N := some 7) (v := ?_) (a' := ?_) #[true, true, true, true, true, true, true, true, true, false] rfl rfl (any_of HT_.out (by kernel_rfl)) (fun _ _ _ h => h) (Or.inl ⟨by rfl, ?_⟩) ?_ ?_
              rotate_left
              · intro w'
                go_simp
                with_reducible rfl
              rotate_left
              · simp only [Act.put, List.setIfInBounds_toArray, List.set_cons_zero, List.set_cons_succ, i64_w, i32_w]
                rfl
              refine pure_ (i := 9) (N := some 8) (v := ?_) (a' := ?_) #[true, true, true, true, true, true, true, true, true, true] rfl rfl (any_of HT_.out (by kernel_rfl)) (fun _ _ _ h => h) (Or.inl ⟨by rfl, ?_⟩) ?_ ?_
              rotate_left
              · intro w'
                go_simp
                with_reducible rfl
              rotate_left
              · simp only [Act.put, List.setIfInBounds_toArray, List.set_cons_zero, List.set_cons_succ, i64_w, i32_w]
                rfl
              refine done_ (done_of HT_.out (by kernel_rfl)) ?_
              try go_wp2
              have n0_ := Aside0.mk (blk_drew BK430.out)
              have n1_ := Aside0.mk (below_drew1 HB.out)
              clear BK430
              clear HB
              have BK430 := n0_
              have HB := n1_
              clear n0_ n1_
              refine start_ (n := 11) (S := fun w' => w'.cell? ⟨gb430, 0, none⟩ = some (.int .i64 a1_0) ∧ w'.cell? ⟨gb430, 1, none⟩ = some (.int .i64 a1_1) ∧ w'.cell? ⟨gb430, 2, none⟩ = some (.int .i64 a1_2) ∧ w'.cell? ⟨gb430, 3, none⟩ = some (.int .i64 0) ∧ w'.cell? ⟨gb430, 4, none⟩ = some (.int .i64 0) ∧ w'.cell? ⟨gb430, 5, none⟩ = some (.int .i64 0)) (ds := []) #[false, false, false, false, false, false, false, false, false, false, false] (by kernel_rfl) rfl rfl ⟨(blk_cell BK430.out 0).trans rfl, (blk_cell BK430.out 1).trans rfl, (blk_cell BK430.out 2).trans rfl, (blk_cell BK430.out 3).trans rfl, (blk_cell BK430.out 4).trans rfl, (blk_cell BK430.out 5).trans rfl⟩ (fun hHeld => ?_); refine with_tabW laws_FnMonthNames.tab6 laws_FnMonthNames.bits6 (fun HT_ HW_ => ?_)
              generalize w63.drew = w64 at BK430 HB hHeld ⊢
              refine pure_ (i := 0) (N := some 43) (v := ?_) (a' := ?_) #[true, false, false, false, false, false, false, false, false, false, false] rfl rfl (any_of HT_.out (by kernel_rfl)) (fun _ _ _ h => h) (Or.inl ⟨by rfl, ?_⟩) ?_ ?_
              rotate_left
              · intro w'
                go_simp
                with_reducible rfl
              rotate_left
              · simp only [Act.put, List.setIfInBounds_toArray, List.set_cons_zero, List.set_cons_succ, i64_w, i32_w]
                rfl
              refine take_ (i := 4) (N := some 47) (v := ?_) (a' := ?_) #[true, false, false, false, true, false, false, false, false, false, false] rfl rfl (take_ofW HT_.out HW_.out (by kernel_rfl)) (fun _ _ _ h => h) (Or.inl ⟨by rfl, ?_⟩) hHeld ?_ ?_
              rotate_left
              · rintro w' ⟨s0, s1, s2, s3, s4, s5⟩
                go_simp
                with_reducible rfl
              rotate_left
              · simp only [Act.put, List.setIfInBounds_toArray, List.set_cons_zero, List.set_cons_succ, i64_w, i32_w]
                rfl
              refine one_ (i := 1) (N := some 44) #[true, true, false, false, true, false, false, false, false, false, false] rfl rfl (one_of HT_.out (by kernel_rfl)) (by decide) (fun K hK => ?_)
              refine goes_ Tryz.func30 (by kernel_rfl) rfl #[.int .i64 a0] (by rfl) rfl rfl (by (try simp only [List.map_toArray, List.map_cons, List.map_nil]); first | done | rfl | (simp only [List.length_drop, List.length_take]; rfl)) ?_
              with_reducible refine (spec_Month.calls a0 t446 _ A19.out).mono ?_
              rintro e w' ⟨rfl, ⟨nd, rfl⟩⟩
              refine ⟨_, rfl, ?_⟩
              refine hK.out _ _ ⟨(blk_cell BK430.out 0).trans rfl, (blk_cell BK430.out 1).trans rfl, (blk_cell BK430.out 2).trans rfl, (blk_cell BK430.out 3).trans rfl, (blk_cell BK430.out 4).trans rfl, (blk_cell BK430.out 5).trans rfl⟩ (fun hHeld => ?_)
              clear hK K
              refine norm_ (a' := ?_) ?_ ?_
              rotate_left
              · show Act.put _ (some 44) _ = _
                simp only [Act.put, List.setIfInBounds_toArray, List.set_cons_zero, List.set_cons_succ, i64_w, i32_w]
                rfl
              refine one_ (i := 2) (N := some 45) #[true, true, true, false, true, false, false, false, false, false, false] rfl rfl (one_of HT_.out (by kernel_rfl)) (by decide) (fun K hK => ?_)
              refine goes_ Tryz.func26 (by kernel_rfl) rfl #[.string t446] (by rfl) rfl rfl (by (try simp only [List.map_toArray, List.map_cons, List.map_nil]); first | done | rfl | (simp only [List.length_drop, List.length_take]; rfl)) ?_
              with_reducible refine (spec_Lower.calls t446 t447 _ A20.out).mono ?_
              rintro e w65 ⟨rfl, hb⟩
              refine ⟨_, rfl, ?_⟩
              have n0_ := Aside0.mk (blk_below (g := gb430) (o := .cells #[.int .i64 a1_0, .int .i64 a1_1, .int .i64 a1_2, .int .i64 0, .int .i64 0, .int .i64 0] 23 (0, 0)) (by (with_reducible repeat (first | refine blk_drewN ?_ _ | refine blk_drew ?_ | refine blk_alloc ?_ _)); exact BK430.out) hb)
              have n1_ := Aside0.mk (below_step (by repeat (first | (with_reducible first | exact HB.out | apply below_alloc | apply pw_below_drewN | apply below_drew1 | refine below_set ?_ GE430.out) | exact HB.out)) hb)
              clear BK430
              clear HB
              have BK430 := n0_
              have HB := n1_
              clear n0_ n1_
              (try clear hb)
              (try clear hb2)
              (try clear hk)
              (try clear hi)
              refine hK.out _ _ ⟨(blk_cell BK430.out 0).trans rfl, (blk_cell BK430.out 1).trans rfl, (blk_cell BK430.out 2).trans rfl, (blk_cell BK430.out 3).trans rfl, (blk_cell BK430.out 4).trans rfl, (blk_cell BK430.out 5).trans rfl⟩ (fun hHeld => ?_)
              clear hK K
              refine norm_ (a' := ?_) ?_ ?_
              rotate_left
              · show Act.put _ (some 45) _ = _
                simp only [Act.put, List.setIfInBounds_toArray, List.set_cons_zero, List.set_cons_succ, i64_w, i32_w]
                rfl
              refine one_ (i := 3) (N := some 46) #[true, true, true, true, true, false, false, false, false, false, false] rfl rfl (one_of HT_.out (by kernel_rfl)) (by decide) (fun K hK => ?_)
              refine goes_ Tryz.func15 (by kernel_rfl) rfl #[.int .i64 4, .string t447] (by rfl) rfl rfl (by (try simp only [List.map_toArray, List.map_cons, List.map_nil]); first | done | rfl | (simp only [List.length_drop, List.length_take]; rfl)) ?_
              with_reducible refine (laws_stars.calls kj2 4 t447 t448 _ A21.out).mono ?_
              rintro e w' ⟨rfl, ⟨nd, rfl⟩⟩
              refine ⟨_, rfl, ?_⟩
              refine hK.out _ _ ⟨(blk_cell BK430.out 0).trans rfl, (blk_cell BK430.out 1).trans rfl, (blk_cell BK430.out 2).trans rfl, (blk_cell BK430.out 3).trans rfl, (blk_cell BK430.out 4).trans rfl, (blk_cell BK430.out 5).trans rfl⟩ (fun hHeld => ?_)
              clear hK K
              refine norm_ (a' := ?_) ?_ ?_
              rotate_left
              · show Act.put _ (some 46) _ = _
                simp only [Act.put, List.setIfInBounds_toArray, List.set_cons_zero, List.set_cons_succ, i64_w, i32_w]
                rfl
              refine one_ (i := 5) (N := some 48) #[true, true, true, true, true, true, false, false, false, false, false] rfl rfl (one_of HT_.out (by kernel_rfl)) (by decide) (fun K hK => ?_)
              refine goes_ Tryz.func24 (by kernel_rfl) rfl #[.string t448, .agg #[.int .i64 a1_0, .int .i64 a1_1, .int .i64 a1_2, .int .i64 0, .int .i64 0, .int .i64 0]] (by rfl) rfl rfl (by (try simp only [List.map_toArray, List.map_cons, List.map_nil]); first | done | rfl | (simp only [List.length_drop, List.length_take]; rfl)) ?_
              with_reducible refine (impl_Due.calls t448 a1_0 a1_1 a1_2 0 0 0 t449 false _ A22.out).mono ?_
              rintro e w66 ⟨rfl, hb⟩
              refine ⟨_, rfl, ?_⟩
              have n0_ := Aside0.mk (blk_below (g := gb430) (o := .cells #[.int .i64 a1_0, .int .i64 a1_1, .int .i64 a1_2, .int .i64 0, .int .i64 0, .int .i64 0] 23 (0, 0)) (by (with_reducible repeat (first | refine blk_drewN ?_ _ | refine blk_drew ?_ | refine blk_alloc ?_ _)); exact BK430.out) hb)
              have n1_ := Aside0.mk (below_step (by repeat (first | (with_reducible first | exact HB.out | apply below_alloc | apply pw_below_drewN | apply below_drew1 | refine below_set ?_ GE430.out) | exact HB.out)) hb)
              clear BK430
              clear HB
              have BK430 := n0_
              have HB := n1_
              clear n0_ n1_
              (try clear hb)
              (try clear hb2)
              (try clear hk)
              (try clear hi)
              refine hK.out _ _ ⟨(blk_cell BK430.out 0).trans rfl, (blk_cell BK430.out 1).trans rfl, (blk_cell BK430.out 2).trans rfl, (blk_cell BK430.out 3).trans rfl, (blk_cell BK430.out 4).trans rfl, (blk_cell BK430.out 5).trans rfl⟩ (fun hHeld => ?_)
              clear hK K
              refine norm_ (a' := ?_) ?_ ?_
              rotate_left
              · show Act.put _ (some 48) _ = _
                simp only [Act.put, List.setIfInBounds_toArray, List.set_cons_zero, List.set_cons_succ, i64_w, i32_w]
                rfl
              refine pure_ (i := 6) (N := some 42) (v := ?_) (a' := ?_) #[true, true, true, true, true, true, true, false, false, false, false] rfl rfl (any_of HT_.out (by kernel_rfl)) (fun _ _ _ h => h) (Or.inl ⟨by rfl, ?_⟩) ?_ ?_
              rotate_left
              · intro w'
                go_simp
                with_reducible rfl
              rotate_left
              · simp only [Act.put, List.setIfInBounds_toArray, List.set_cons_zero, List.set_cons_succ, i64_w, i32_w]
                rfl
              refine pure_ (i := 7) (N := some 49) (v := ?_) (a' := ?_) #[true, true, true, true, true, true, true, true, false, false, false] rfl rfl (any_of HT_.out (by kernel_rfl)) (fun _ _ _ h => h) (Or.inl ⟨by rfl, ?_⟩) ?_ ?_
              rotate_left
              · intro w'
                go_simp
                with_reducible rfl
              rotate_left
              · simp only [Act.put, List.setIfInBounds_toArray, List.set_cons_zero, List.set_cons_succ, i64_w, i32_w]
                rfl
              refine pure_ (i := 8) (N := some 50) (v := ?_) (a' := ?_) #[true, true, true, true, true, true, true, true, true, false, false] rfl rfl (any_of HT_.out (by kernel_rfl)) (fun _ _ _ h => h) (Or.inl ⟨by rfl, ?_⟩) ?_ ?_
              rotate_left
              · intro w'
                go_simp
                with_reducible rfl
              rotate_left
              · simp only [Act.put, List.setIfInBounds_toArray, List.set_cons_zero, List.set_cons_succ, i64_w, i32_w]
                rfl
              refine pure_ (i := 9) (N := some 9) (v := ?_) (a' := ?_) #[true, true, true, true, true, true, true, true, true, true, false] rfl rfl (any_of HT_.out (by kernel_rfl)) (fun _ _ _ h => h) (Or.inl ⟨by rfl, ?_⟩) ?_ ?_
              rotate_left
              · intro w'
                go_simp
                with_reducible rfl
              rotate_left
              · simp only [Act.put, List.setIfInBounds_toArray, List.set_cons_zero, List.set_cons_succ, i64_w, i32_w]
                rfl
              refine pure_ (i := 10) (N := some 10) (v := ?_) (a' := ?_) #[true, true, true, true, true, true, true, true, true, true, true] rfl rfl (any_of HT_.out (by kernel_rfl)) (fun _ _ _ h => h) (Or.inl ⟨by rfl, ?_⟩) ?_ ?_
              rotate_left
              · intro w'
                go_simp
                with_reducible rfl
              rotate_left
              · simp only [Act.put, List.setIfInBounds_toArray, List.set_cons_zero, List.set_cons_succ, i64_w, i32_w]
                rfl
              refine done_ (done_of HT_.out (by kernel_rfl)) ?_
              try go_wp2
              go_ret
              exact ⟨by first | rfl | (simp [errW_none, errW_some] <;> rfl) | (simp [*, errW_none, errW_some] <;> rfl), by repeat (first | (with_reducible first | exact HB.out | apply below_alloc | apply pw_below_drewN | apply below_drew1 | refine below_set ?_ GE430.out) | exact HB.out)⟩
          · replace c24 := Bool.eq_false_iff.mpr c24
            subst c24
            have H1 : (some false) = some r := by rw [if_neg (show ¬ (false = true) by decide)] at H; exact H
            clear H
            have H := H1
            clear H1
            obtain rfl := Option.some.inj H
            have hcz67_0 : wc.cell? ⟨gb430, 0, none⟩ = some (.int .i64 a1_0) := (blk_cell BK430.out 0).trans rfl
            have hcz67_1 : wc.cell? ⟨gb430, 1, none⟩ = some (.int .i64 a1_1) := (blk_cell BK430.out 1).trans rfl
            have hcz67_2 : wc.cell? ⟨gb430, 2, none⟩ = some (.int .i64 a1_2) := (blk_cell BK430.out 2).trans rfl
            have hcz67_3 : wc.cell? ⟨gb430, 3, none⟩ = some (.int .i64 a1_3) := (blk_cell BK430.out 3).trans rfl
            have hcz67_4 : wc.cell? ⟨gb430, 4, none⟩ = some (.int .i64 a1_4) := (blk_cell BK430.out 4).trans rfl
            have hcz67_5 : wc.cell? ⟨gb430, 5, none⟩ = some (.int .i64 a1_5) := (blk_cell BK430.out 5).trans rfl
            have hfz67_0 := blk_frozen BK430.out 0
            have hfz67_1 := blk_frozen BK430.out 1
            have hfz67_2 := blk_frozen BK430.out 2
            have hfz67_3 := blk_frozen BK430.out 3
            have hfz67_4 := blk_frozen BK430.out 4
            have hfz67_5 := blk_frozen BK430.out 5
            try go_wp2
            have n0_ : Aside0 ((((wc.setCell ⟨gb430, 3, none⟩ (.int .i64 0)).setCell ⟨gb430, 4, none⟩ (.int .i64 0)).setCell ⟨gb430, 5, none⟩ (.int .i64 0)).heap[gb430]? = some (.cells #[.int .i64 a1_0, .int .i64 a1_1, .int .i64 a1_2, .int .i64 0, .int .i64 0, .int .i64 0] 23 (0, 0))) := ⟨by (with_reducible repeat (first | refine blk_drewN ?_ _ | refine blk_drew ?_ | refine blk_alloc ?_ _)); refine blk_put (cs := #[.int .i64 a1_0, .int .i64 a1_1, .int .i64 a1_2, .int .i64 0, .int .i64 0, .int .i64 a1_5]) ?_ 5 _ rfl; (with_reducible repeat (first | refine blk_drewN ?_ _ | refine blk_drew ?_ | refine blk_alloc ?_ _)); refine blk_put (cs := #[.int .i64 a1_0, .int .i64 a1_1, .int .i64 a1_2, .int .i64 0, .int .i64 a1_4, .int .i64 a1_5]) ?_ 4 _ rfl; (with_reducible repeat (first | refine blk_drewN ?_ _ | refine blk_drew ?_ | refine blk_alloc ?_ _)); refine blk_put (cs := #[.int .i64 a1_0, .int .i64 a1_1, .int .i64 a1_2, .int .i64 a1_3, .int .i64 a1_4, .int .i64 a1_5]) ?_ 3 _ rfl; (with_reducible repeat (first | refine blk_drewN ?_ _ | refine blk_drew ?_ | refine blk_alloc ?_ _)); exact BK430.out⟩
            have n1_ : Aside0 (Below w.heap.size w (((wc.setCell ⟨gb430, 3, none⟩ (.int .i64 0)).setCell ⟨gb430, 4, none⟩ (.int .i64 0)).setCell ⟨gb430, 5, none⟩ (.int .i64 0))) := ⟨by repeat (first | (with_reducible first | exact HB.out | apply below_alloc | apply pw_below_drewN | apply below_drew1 | refine below_set ?_ GE430.out) | exact HB.out)⟩
            (try clear BK430)
            (try clear HB)
            generalize (((wc.setCell ⟨gb430, 3, none⟩ (.int .i64 0)).setCell ⟨gb430, 4, none⟩ (.int .i64 0)).setCell ⟨gb430, 5, none⟩ (.int .i64 0)) = w68 at n0_ n1_ ⊢
            have BK430 := n0_
            have HB := n1_
            clear n0_ n1_
            have n0_ := Aside0.mk (blk_drew BK430.out)
            have n1_ := Aside0.mk (below_drew1 HB.out)
            clear BK430
            clear HB
            have BK430 := n0_
            have HB := n1_
            clear n0_ n1_
            refine start_ (n := 10) (S := fun w' => w'.cell? ⟨gb430, 0, none⟩ = some (.int .i64 a1_0) ∧ w'.cell? ⟨gb430, 1, none⟩ = some (.int .i64 a1_1) ∧ w'.cell? ⟨gb430, 2, none⟩ = some (.int .i64 a1_2) ∧ w'.cell? ⟨gb430, 3, none⟩ = some (.int .i64 0) ∧ w'.cell? ⟨gb430, 4, none⟩ = some (.int .i64 0) ∧ w'.cell? ⟨gb430, 5, none⟩ = some (.int .i64 0)) (ds := []) #[false, false, false, false, false, false, false, false, false, false] (by kernel_rfl) rfl rfl ⟨(blk_cell BK430.out 0).trans rfl, (blk_cell BK430.out 1).trans rfl, (blk_cell BK430.out 2).trans rfl, (blk_cell BK430.out 3).trans rfl, (blk_cell BK430.out 4).trans rfl, (blk_cell BK430.out 5).trans rfl⟩ (fun hHeld => ?_); refine with_tabW laws_FnMonthNames.tab4 laws_FnMonthNames.bits4 (fun HT_ HW_ => ?_)
            generalize w68.drew = w69 at BK430 HB hHeld ⊢
            refine pure_ (i := 0) (N := some 27) (v := ?_) (a' := ?_) #[true, false, false, false, false, false, false, false, false, false] rfl rfl (any_of HT_.out (by kernel_rfl)) (fun _ _ _ h => h) (Or.inl ⟨by rfl, ?_⟩) ?_ ?_
            rotate_left
            · intro w'
              go_simp
              with_reducible rfl
            rotate_left
            · simp only [Act.put, List.setIfInBounds_toArray, List.set_cons_zero, List.set_cons_succ, i64_w, i32_w]
              rfl
            refine take_ (i := 3) (N := some 30) (v := ?_) (a' := ?_) #[true, false, false, true, false, false, false, false, false, false] rfl rfl (take_ofW HT_.out HW_.out (by kernel_rfl)) (fun _ _ _ h => h) (Or.inl ⟨by rfl, ?_⟩) hHeld ?_ ?_
            rotate_left
            · rintro w' ⟨s0, s1, s2, s3, s4, s5⟩
              go_simp
              with_reducible rfl
            rotate_left
            · simp only [Act.put, List.setIfInBounds_toArray, List.set_cons_zero, List.set_cons_succ, i64_w, i32_w]
              rfl
            refine one_ (i := 1) (N := some 28) #[true, true, false, true, false, false, false, false, false, false] rfl rfl (one_of HT_.out (by kernel_rfl)) (by decide) (fun K hK => ?_)
            refine goes_ Tryz.func16 (by kernel_rfl) rfl #[.int .i64 a0] (by rfl) rfl rfl (by (try simp only [List.map_toArray, List.map_cons, List.map_nil]); first | done | rfl | (simp only [List.length_drop, List.length_take]; rfl)) ?_
            with_reducible refine (spec_Decimal.calls kj2 a0 t438 _ A13.out).mono ?_
            rintro e w' ⟨rfl, ⟨nd, rfl⟩⟩
            refine ⟨_, rfl, ?_⟩
            refine hK.out _ _ ⟨(blk_cell BK430.out 0).trans rfl, (blk_cell BK430.out 1).trans rfl, (blk_cell BK430.out 2).trans rfl, (blk_cell BK430.out 3).trans rfl, (blk_cell BK430.out 4).trans rfl, (blk_cell BK430.out 5).trans rfl⟩ (fun hHeld => ?_)
            clear hK K
            refine norm_ (a' := ?_) ?_ ?_
            rotate_left
            · show Act.put _ (some 28) _ = _
              simp only [Act.put, List.setIfInBounds_toArray, List.set_cons_zero, List.set_cons_succ, i64_w, i32_w]
              rfl
            refine one_ (i := 2) (N := some 29) #[true, true, true, true, false, false, false, false, false, false] rfl rfl (one_of HT_.out (by kernel_rfl)) (by decide) (fun K hK => ?_)
            refine goes_ Tryz.func15 (by kernel_rfl) rfl #[.int .i64 4, .string t438] (by rfl) rfl rfl (by (try simp only [List.map_toArray, List.map_cons, List.map_nil]); first | done | rfl | (simp only [List.length_drop, List.length_take]; rfl)) ?_
            with_reducible refine (laws_stars.calls kj2 4 t438 t439 _ A14.out).mono ?_
            rintro e w' ⟨rfl, ⟨nd, rfl⟩⟩
            refine ⟨_, rfl, ?_⟩
            refine hK.out _ _ ⟨(blk_cell BK430.out 0).trans rfl, (blk_cell BK430.out 1).trans rfl, (blk_cell BK430.out 2).trans rfl, (blk_cell BK430.out 3).trans rfl, (blk_cell BK430.out 4).trans rfl, (blk_cell BK430.out 5).trans rfl⟩ (fun hHeld => ?_)
            clear hK K
            refine norm_ (a' := ?_) ?_ ?_
            rotate_left
            · show Act.put _ (some 29) _ = _
              simp only [Act.put, List.setIfInBounds_toArray, List.set_cons_zero, List.set_cons_succ, i64_w, i32_w]
              rfl
            refine one_ (i := 4) (N := some 31) #[true, true, true, true, true, false, false, false, false, false] rfl rfl (one_of HT_.out (by kernel_rfl)) (by decide) (fun K hK => ?_)
            refine goes_ Tryz.func24 (by kernel_rfl) rfl #[.string t439, .agg #[.int .i64 a1_0, .int .i64 a1_1, .int .i64 a1_2, .int .i64 0, .int .i64 0, .int .i64 0]] (by rfl) rfl rfl (by (try simp only [List.map_toArray, List.map_cons, List.map_nil]); first | done | rfl | (simp only [List.length_drop, List.length_take]; rfl)) ?_
            with_reducible refine (impl_Due.calls t439 a1_0 a1_1 a1_2 0 0 0 t440 true _ A15.out).mono ?_
            rintro e w70 ⟨rfl, hb⟩
            refine ⟨_, rfl, ?_⟩
            have n0_ := Aside0.mk (blk_below (g := gb430) (o := .cells #[.int .i64 a1_0, .int .i64 a1_1, .int .i64 a1_2, .int .i64 0, .int .i64 0, .int .i64 0] 23 (0, 0)) (by (with_reducible repeat (first | refine blk_drewN ?_ _ | refine blk_drew ?_ | refine blk_alloc ?_ _)); exact BK430.out) hb)
            have n1_ := Aside0.mk (below_step (by repeat (first | (with_reducible first | exact HB.out | apply below_alloc | apply pw_below_drewN | apply below_drew1 | refine below_set ?_ GE430.out) | exact HB.out)) hb)
            clear BK430
            clear HB
            have BK430 := n0_
            have HB := n1_
            clear n0_ n1_
            (try clear hb)
            (try clear hb2)
            (try clear hk)
            (try clear hi)
            refine hK.out _ _ ⟨(blk_cell BK430.out 0).trans rfl, (blk_cell BK430.out 1).trans rfl, (blk_cell BK430.out 2).trans rfl, (blk_cell BK430.out 3).trans rfl, (blk_cell BK430.out 4).trans rfl, (blk_cell BK430.out 5).trans rfl⟩ (fun hHeld => ?_)
            clear hK K
            refine norm_ (a' := ?_) ?_ ?_
            rotate_left
            · show Act.put _ (some 31) _ = _
              simp only [Act.put, List.setIfInBounds_toArray, List.set_cons_zero, List.set_cons_succ, i64_w, i32_w]
              rfl
            refine pure_ (i := 5) (N := some 26) (v := ?_) (a' := ?_) #[true, true, true, true, true, true, false, false, false, false] rfl rfl (any_of HT_.out (by kernel_rfl)) (fun _ _ _ h => h) (Or.inl ⟨by rfl, ?_⟩) ?_ ?_
            rotate_left
            · intro w'
              go_simp
              with_reducible rfl
            rotate_left
            · simp only [Act.put, List.setIfInBounds_toArray, List.set_cons_zero, List.set_cons_succ, i64_w, i32_w]
              rfl
            refine pure_ (i := 6) (N := some 32) (v := ?_) (a' := ?_) #[true, true, true, true, true, true, true, false, false, false] rfl rfl (any_of HT_.out (by kernel_rfl)) (fun _ _ _ h => h) (Or.inl ⟨by rfl, ?_⟩) ?_ ?_
            rotate_left
            · intro w'
              go_simp
              with_reducible rfl
            rotate_left
            · simp only [Act.put, List.setIfInBounds_toArray, List.set_cons_zero, List.set_cons_succ, i64_w, i32_w]
              rfl
            refine pure_ (i := 7) (N := some 33) (v := ?_) (a' := ?_) #[true, true, true, true, true, true, true, true, false, false] rfl rfl (any_of HT_.out (by kernel_rfl)) (fun _ _ _ h => h) (Or.inl ⟨by rfl, ?_⟩) ?_ ?_
            rotate_left
            · intro w'
              go_simp
              with_reducible rfl
            rotate_left
            · simp only [Act.put, List.setIfInBounds_toArray, List.set_cons_zero, List.set_cons_succ, i64_w, i32_w]
              rfl
            refine pure_ (i := 8) (N := some 5) (v := ?_) (a' := ?_) #[true, true, true, true, true, true, true, true, true, false] rfl rfl (any_of HT_.out (by kernel_rfl)) (fun _ _ _ h => h) (Or.inl ⟨by rfl, ?_⟩) ?_ ?_
            rotate_left
            · intro w'
              go_simp
              with_reducible rfl
            rotate_left
            · simp only [Act.put, List.setIfInBounds_toArray, List.set_cons_zero, List.set_cons_succ, i64_w, i32_w]
              rfl
            refine pure_ (i := 9) (N := some 6) (v := ?_) (a' := ?_) #[true, true, true, true, true, true, true, true, true, true] rfl rfl (any_of HT_.out (by kernel_rfl)) (fun _ _ _ h => h) (Or.inl ⟨by rfl, ?_⟩) ?_ ?_
            rotate_left
            · intro w'
              go_simp
              with_reducible rfl
            rotate_left
            · simp only [Act.put, List.setIfInBounds_toArray, List.set_cons_zero, List.set_cons_succ, i64_w, i32_w]
              rfl
            refine done_ (done_of HT_.out (by kernel_rfl)) ?_
            try go_wp2
            have n0_ := Aside0.mk (blk_drew BK430.out)
            have n1_ := Aside0.mk (below_drew1 HB.out)
            clear BK430
            clear HB
            have BK430 := n0_
            have HB := n1_
            clear n0_ n1_
            refine start_ (n := 10) (S := fun w' => w'.cell? ⟨gb430, 0, none⟩ = some (.int .i64 a1_0) ∧ w'.cell? ⟨gb430, 1, none⟩ = some (.int .i64 a1_1) ∧ w'.cell? ⟨gb430, 2, none⟩ = some (.int .i64 a1_2) ∧ w'.cell? ⟨gb430, 3, none⟩ = some (.int .i64 0) ∧ w'.cell? ⟨gb430, 4, none⟩ = some (.int .i64 0) ∧ w'.cell? ⟨gb430, 5, none⟩ = some (.int .i64 0)) (ds := []) #[false, false, false, false, false, false, false, false, false, false] (by kernel_rfl) rfl rfl ⟨(blk_cell BK430.out 0).trans rfl, (blk_cell BK430.out 1).trans rfl, (blk_cell BK430.out 2).trans rfl, (blk_cell BK430.out 3).trans rfl, (blk_cell BK430.out 4).trans rfl, (blk_cell BK430.out 5).trans rfl⟩ (fun hHeld => ?_); refine with_tabW laws_FnMonthNames.tab5 laws_FnMonthNames.bits5 (fun HT_ HW_ => ?_)
            generalize w70.drew = w71 at BK430 HB hHeld ⊢
            refine pure_ (i := 0) (N := some 35) (v := ?_) (a' := ?_) #[true, false, false, false, false, false, false, false, false, false] rfl rfl (any_of HT_.out (by kernel_rfl)) (fun _ _ _ h => h) (Or.inl ⟨by rfl, ?_⟩) ?_ ?_
            rotate_left
            · intro w'
              go_simp
              with_reducible rfl
            rotate_left
            · simp only [Act.put, List.setIfInBounds_toArray, List.set_cons_zero, List.set_cons_succ, i64_w, i32_w]
              rfl
            refine take_ (i := 3) (N := some 38) (v := ?_) (a' := ?_) #[true, false, false, true, false, false, false, false, false, false] rfl rfl (take_ofW HT_.out HW_.out (by kernel_rfl)) (fun _ _ _ h => h) (Or.inl ⟨by rfl, ?_⟩) hHeld ?_ ?_
            rotate_left
            · rintro w' ⟨s0, s1, s2, s3, s4, s5⟩
              go_simp
              with_reducible rfl
            rotate_left
            · simp only [Act.put, List.setIfInBounds_toArray, List.set_cons_zero, List.set_cons_succ, i64_w, i32_w]
              rfl
            refine one_ (i := 1) (N := some 36) #[true, true, false, true, false, false, false, false, false, false] rfl rfl (one_of HT_.out (by kernel_rfl)) (by decide) (fun K hK => ?_)
            refine goes_ Tryz.func30 (by kernel_rfl) rfl #[.int .i64 a0] (by rfl) rfl rfl (by (try simp only [List.map_toArray, List.map_cons, List.map_nil]); first | done | rfl | (simp only [List.length_drop, List.length_take]; rfl)) ?_
            with_reducible refine (spec_Month.calls a0 t442 _ A16.out).mono ?_
            rintro e w' ⟨rfl, ⟨nd, rfl⟩⟩
            refine ⟨_, rfl, ?_⟩
            refine hK.out _ _ ⟨(blk_cell BK430.out 0).trans rfl, (blk_cell BK430.out 1).trans rfl, (blk_cell BK430.out 2).trans rfl, (blk_cell BK430.out 3).trans rfl, (blk_cell BK430.out 4).trans rfl, (blk_cell BK430.out 5).trans rfl⟩ (fun hHeld => ?_)
            clear hK K
            refine norm_ (a' := ?_) ?_ ?_
            rotate_left
            · show Act.put _ (some 36) _ = _
              simp only [Act.put, List.setIfInBounds_toArray, List.set_cons_zero, List.set_cons_succ, i64_w, i32_w]
              rfl
            refine one_ (i := 2) (N := some 37) #[true, true, true, true, false, false, false, false, false, false] rfl rfl (one_of HT_.out (by kernel_rfl)) (by decide) (fun K hK => ?_)
            refine goes_ Tryz.func15 (by kernel_rfl) rfl #[.int .i64 4, .string t442] (by rfl) rfl rfl (by (try simp only [List.map_toArray, List.map_cons, List.map_nil]); first | done | rfl | (simp only [List.length_drop, List.length_take]; rfl)) ?_
            with_reducible refine (laws_stars.calls kj2 4 t442 t443 _ A17.out).mono ?_
            rintro e w' ⟨rfl, ⟨nd, rfl⟩⟩
            refine ⟨_, rfl, ?_⟩
            refine hK.out _ _ ⟨(blk_cell BK430.out 0).trans rfl, (blk_cell BK430.out 1).trans rfl, (blk_cell BK430.out 2).trans rfl, (blk_cell BK430.out 3).trans rfl, (blk_cell BK430.out 4).trans rfl, (blk_cell BK430.out 5).trans rfl⟩ (fun hHeld => ?_)
            clear hK K
            refine norm_ (a' := ?_) ?_ ?_
            rotate_left
            · show Act.put _ (some 37) _ = _
              simp only [Act.put, List.setIfInBounds_toArray, List.set_cons_zero, List.set_cons_succ, i64_w, i32_w]
              rfl
            refine one_ (i := 4) (N := some 39) #[true, true, true, true, true, false, false, false, false, false] rfl rfl (one_of HT_.out (by kernel_rfl)) (by decide) (fun K hK => ?_)
            refine goes_ Tryz.func24 (by kernel_rfl) rfl #[.string t443, .agg #[.int .i64 a1_0, .int .i64 a1_1, .int .i64 a1_2, .int .i64 0, .int .i64 0, .int .i64 0]] (by rfl) rfl rfl (by (try simp only [List.map_toArray, List.map_cons, List.map_nil]); first | done | rfl | (simp only [List.length_drop, List.length_take]; rfl)) ?_
            with_reducible refine (impl_Due.calls t443 a1_0 a1_1 a1_2 0 0 0 t444 false _ A18.out).mono ?_
            rintro e w72 ⟨rfl, hb⟩
            refine ⟨_, rfl, ?_⟩
            have n0_ := Aside0.mk (blk_below (g := gb430) (o := .cells #[.int .i64 a1_0, .int .i64 a1_1, .int .i64 a1_2, .int .i64 0, .int .i64 0, .int .i64 0] 23 (0, 0)) (by (with_reducible repeat (first | refine blk_drewN ?_ _ | refine blk_drew ?_ | refine blk_alloc ?_ _)); exact BK430.out) hb)
            have n1_ := Aside0.mk (below_step (by repeat (first | (with_reducible first | exact HB.out | apply below_alloc | apply pw_below_drewN | apply below_drew1 | refine below_set ?_ GE430.out) | exact HB.out)) hb)
            clear BK430
            clear HB
            have BK430 := n0_
            have HB := n1_
            clear n0_ n1_
            (try clear hb)
            (try clear hb2)
            (try clear hk)
            (try clear hi)
            refine hK.out _ _ ⟨(blk_cell BK430.out 0).trans rfl, (blk_cell BK430.out 1).trans rfl, (blk_cell BK430.out 2).trans rfl, (blk_cell BK430.out 3).trans rfl, (blk_cell BK430.out 4).trans rfl, (blk_cell BK430.out 5).trans rfl⟩ (fun hHeld => ?_)
            clear hK K
            refine norm_ (a' := ?_) ?_ ?_
            rotate_left
            · show Act.put _ (some 39) _ = _
              simp only [Act.put, List.setIfInBounds_toArray, List.set_cons_zero, List.set_cons_succ, i64_w, i32_w]
              rfl
            refine pure_ (i := 5) (N := some 34) (v := ?_) (a' := ?_) #[true, true, true, true, true, true, false, false, false, false] rfl rfl (any_of HT_.out (by kernel_rfl)) (fun _ _ _ h => h) (Or.inl ⟨by rfl, ?_⟩) ?_ ?_
            rotate_left
            · intro w'
              go_simp
              with_reducible rfl
            rotate_left
            · simp only [Act.put, List.setIfInBounds_toArray, List.set_cons_zero, List.set_cons_succ, i64_w, i32_w]
              rfl
            refine pure_ (i := 6) (N := some 40) (v := ?_) (a' := ?_) #[true, true, true, true, true, true, true, false, false, false] rfl rfl (any_of HT_.out (by kernel_rfl)) (fun _ _ _ h => h) (Or.inl ⟨by rfl, ?_⟩) ?_ ?_
            rotate_left
            · intro w'
              go_simp
              with_reducible rfl
            rotate_left
            · simp only [Act.put, List.setIfInBounds_toArray, List.set_cons_zero, List.set_cons_succ, i64_w, i32_w]
              rfl
            refine pure_ (i := 7) (N := some 41) (v := ?_) (a' := ?_) #[true, true, true, true, true, true, true, true, false, false] rfl rfl (any_of HT_.out (by kernel_rfl)) (fun _ _ _ h => h) (Or.inl ⟨by rfl, ?_⟩) ?_ ?_
            rotate_left
            · intro w'
              go_simp
              with_reducible rfl
            rotate_left
            · simp only [Act.put, List.setIfInBounds_toArray, List.set_cons_zero, List.set_cons_succ, i64_w, i32_w]
              rfl
            refine pure_ (i := 8) (N := some 7) (v := ?_) (a' := ?_) #[true, true, true, true, true, true, true, true, true, false] rfl rfl (any_of HT_.out (by kernel_rfl)) (fun _ _ _ h => h) (Or.inl ⟨by rfl, ?_⟩) ?_ ?_
            rotate_left
            · intro w'
              go_simp
              with_reducible rfl
            rotate_left
            · simp only [Act.put, List.setIfInBounds_toArray, List.set_cons_zero, List.set_cons_succ, i64_w, i32_w]
              rfl
            refine pure_ (i := 9) (N := some 8) (v := ?_) (a' := ?_) #[true, true, true, true, true, true, true, true, true, true] rfl rfl (any_of HT_.out (by kernel_rfl)) (fun _ _ _ h => h) (Or.inl ⟨by rfl, ?_⟩) ?_ ?_
            rotate_left
            · intro w'
              go_simp
              with_reducible rfl
            rotate_left
            · simp only [Act.put, List.setIfInBounds_toArray, List.set_cons_zero, List.set_cons_succ, i64_w, i32_w]
              rfl
            refine done_ (done_of HT_.out (by kernel_rfl)) ?_
            try go_wp2
            have n0_ := Aside0.mk (blk_drew BK430.out)
            have n1_ := Aside0.mk (below_drew1 HB.out)
            clear BK430
            clear HB
            have BK430 := n0_
            have HB := n1_
            clear n0_ n1_
            refine start_ (n := 11) (S := fun w' => w'.cell? ⟨gb430, 0, none⟩ = some (.int .i64 a1_0) ∧ w'.cell? ⟨gb430, 1, none⟩ = some (.int .i64 a1_1) ∧ w'.cell? ⟨gb430, 2, none⟩ = some (.int .i64 a1_2) ∧ w'.cell? ⟨gb430, 3, none⟩ = some (.int .i64 0) ∧ w'.cell? ⟨gb430, 4, none⟩ = some (.int .i64 0) ∧ w'.cell? ⟨gb430, 5, none⟩ = some (.int .i64 0)) (ds := []) #[false, false, false, false, false, false, false, false, false, false, false] (by kernel_rfl) rfl rfl ⟨(blk_cell BK430.out 0).trans rfl, (blk_cell BK430.out 1).trans rfl, (blk_cell BK430.out 2).trans rfl, (blk_cell BK430.out 3).trans rfl, (blk_cell BK430.out 4).trans rfl, (blk_cell BK430.out 5).trans rfl⟩ (fun hHeld => ?_); refine with_tabW laws_FnMonthNames.tab6 laws_FnMonthNames.bits6 (fun HT_ HW_ => ?_)
            generalize w72.drew = w73 at BK430 HB hHeld ⊢
            refine pure_ (i := 0) (N := some 43) (v := ?_) (a' := ?_) #[true, false, false, false, false, false, false, false, false, false, false] rfl rfl (any_of HT_.out (by kernel_rfl)) (fun _ _ _ h => h) (Or.inl ⟨by rfl, ?_⟩) ?_ ?_
            rotate_left
            · intro w'
              go_simp
              with_reducible rfl
            rotate_left
            · simp only [Act.put, List.setIfInBounds_toArray, List.set_cons_zero, List.set_cons_succ, i64_w, i32_w]
              rfl
            refine take_ (i := 4) (N := some 47) (v := ?_) (a' := ?_) #[true, false, false, false, true, false, false, false, false, false, false] rfl rfl (take_ofW HT_.out HW_.out (by kernel_rfl)) (fun _ _ _ h => h) (Or.inl ⟨by rfl, ?_⟩) hHeld ?_ ?_
            rotate_left
            · rintro w' ⟨s0, s1, s2, s3, s4, s5⟩
              go_simp
              with_reducible rfl
            rotate_left
            · simp only [Act.put, List.setIfInBounds_toArray, List.set_cons_zero, List.set_cons_succ, i64_w, i32_w]
              rfl
            refine one_ (i := 1) (N := some 44) #[true, true, false, false, true, false, false, false, false, false, false] rfl rfl (one_of HT_.out (by kernel_rfl)) (by decide) (fun K hK => ?_)
            refine goes_ Tryz.func30 (by kernel_rfl) rfl #[.int .i64 a0] (by rfl) rfl rfl (by (try simp only [List.map_toArray, List.map_cons, List.map_nil]); first | done | rfl | (simp only [List.length_drop, List.length_take]; rfl)) ?_
            with_reducible refine (spec_Month.calls a0 t446 _ A19.out).mono ?_
            rintro e w' ⟨rfl, ⟨nd, rfl⟩⟩
            refine ⟨_, rfl, ?_⟩
            refine hK.out _ _ ⟨(blk_cell BK430.out 0).trans rfl, (blk_cell BK430.out 1).trans rfl, (blk_cell BK430.out 2).trans rfl, (blk_cell BK430.out 3).trans rfl, (blk_cell BK430.out 4).trans rfl, (blk_cell BK430.out 5).trans rfl⟩ (fun hHeld => ?_)
            clear hK K
            refine norm_ (a' := ?_) ?_ ?_
            rotate_left
            · show Act.put _ (some 44) _ = _
              simp only [Act.put, List.setIfInBounds_toArray, List.set_cons_zero, List.set_cons_succ, i64_w, i32_w]
              rfl
            refine one_ (i := 2) (N := some 45) #[true, true, true, false, true, false, false, false, false, false, false] rfl rfl (one_of HT_.out (by kernel_rfl)) (by decide) (fun K hK => ?_)
            refine goes_ Tryz.func26 (by kernel_rfl) rfl #[.string t446] (by rfl) rfl rfl (by (try simp only [List.map_toArray, List.map_cons, List.map_nil]); first | done | rfl | (simp only [List.length_drop, List.length_take]; rfl)) ?_
            with_reducible refine (spec_Lower.calls t446 t447 _ A20.out).mono ?_
            rintro e w74 ⟨rfl, hb⟩
            refine ⟨_, rfl, ?_⟩
            have n0_ := Aside0.mk (blk_below (g := gb430) (o := .cells #[.int .i64 a1_0, .int .i64 a1_1, .int .i64 a1_2, .int .i64 0, .int .i64 0, .int .i64 0] 23 (0, 0)) (by (with_reducible repeat (first | refine blk_drewN ?_ _ | refine blk_drew ?_ | refine blk_alloc ?_ _)); exact BK430.out) hb)
            have n1_ := Aside0.mk (below_step (by repeat (first | (with_reducible first | exact HB.out | apply below_alloc | apply pw_below_drewN | apply below_drew1 | refine below_set ?_ GE430.out) | exact HB.out)) hb)
            clear BK430
            clear HB
            have BK430 := n0_
            have HB := n1_
            clear n0_ n1_
            (try clear hb)
            (try clear hb2)
            (try clear hk)
            (try clear hi)
            refine hK.out _ _ ⟨(blk_cell BK430.out 0).trans rfl, (blk_cell BK430.out 1).trans rfl, (blk_cell BK430.out 2).trans rfl, (blk_cell BK430.out 3).trans rfl, (blk_cell BK430.out 4).trans rfl, (blk_cell BK430.out 5).trans rfl⟩ (fun hHeld => ?_)
            clear hK K
            refine norm_ (a' := ?_) ?_ ?_
            rotate_left
            · show Act.put _ (some 45) _ = _
              simp only [Act.put, List.setIfInBounds_toArray, List.set_cons_zero, List.set_cons_succ, i64_w, i32_w]
              rfl
            refine one_ (i := 3) (N := some 46) #[true, true, true, true, true, false, false, false, false, false, false] rfl rfl (one_of HT_.out (by kernel_rfl)) (by decide) (fun K hK => ?_)
            refine goes_ Tryz.func15 (by kernel_rfl) rfl #[.int .i64 4, .string t447] (by rfl) rfl rfl (by (try simp only [List.map_toArray, List.map_cons, List.map_nil]); first | done | rfl | (simp only [List.length_drop, List.length_take]; rfl)) ?_
            with_reducible refine (laws_stars.calls kj2 4 t447 t448 _ A21.out).mono ?_
            rintro e w' ⟨rfl, ⟨nd, rfl⟩⟩
            refine ⟨_, rfl, ?_⟩
            refine hK.out _ _ ⟨(blk_cell BK430.out 0).trans rfl, (blk_cell BK430.out 1).trans rfl, (blk_cell BK430.out 2).trans rfl, (blk_cell BK430.out 3).trans rfl, (blk_cell BK430.out 4).trans rfl, (blk_cell BK430.out 5).trans rfl⟩ (fun hHeld => ?_)
            clear hK K
            refine norm_ (a' := ?_) ?_ ?_
            rotate_left
            · show Act.put _ (some 46) _ = _
              simp only [Act.put, List.setIfInBounds_toArray, List.set_cons_zero, List.set_cons_succ, i64_w, i32_w]
              rfl
            refine one_ (i := 5) (N := some 48) #[true, true, true, true, true, true, false, false, false, false, false] rfl rfl (one_of HT_.out (by kernel_rfl)) (by decide) (fun K hK => ?_)
            refine goes_ Tryz.func24 (by kernel_rfl) rfl #[.string t448, .agg #[.int .i64 a1_0, .int .i64 a1_1, .int .i64 a1_2, .int .i64 0, .int .i64 0, .int .i64 0]] (by rfl) rfl rfl (by (try simp only [List.map_toArray, List.map_cons, List.map_nil]); first | done | rfl | (simp only [List.length_drop, List.length_take]; rfl)) ?_
            with_reducible refine (impl_Due.calls t448 a1_0 a1_1 a1_2 0 0 0 t449 t450 _ A22.out).mono ?_
            rintro e w75 ⟨rfl, hb⟩
            refine ⟨_, rfl, ?_⟩
            have n0_ := Aside0.mk (blk_below (g := gb430) (o := .cells #[.int .i64 a1_0, .int .i64 a1_1, .int .i64 a1_2, .int .i64 0, .int .i64 0, .int .i64 0] 23 (0, 0)) (by (with_reducible repeat (first | refine blk_drewN ?_ _ | refine blk_drew ?_ | refine blk_alloc ?_ _)); exact BK430.out) hb)
            have n1_ := Aside0.mk (below_step (by repeat (first | (with_reducible first | exact HB.out | apply below_alloc | apply pw_below_drewN | apply below_drew1 | refine below_set ?_ GE430.out) | exact HB.out)) hb)
            clear BK430
            clear HB
            have BK430 := n0_
            have HB := n1_
            clear n0_ n1_
            (try clear hb)
            (try clear hb2)
            (try clear hk)
            (try clear hi)
            refine hK.out _ _ ⟨(blk_cell BK430.out 0).trans rfl, (blk_cell BK430.out 1).trans rfl, (blk_cell BK430.out 2).trans rfl, (blk_cell BK430.out 3).trans rfl, (blk_cell BK430.out 4).trans rfl, (blk_cell BK430.out 5).trans rfl⟩ (fun hHeld => ?_)
            clear hK K
            refine norm_ (a' := ?_) ?_ ?_
            rotate_left
            · show Act.put _ (some 48) _ = _
              simp only [Act.put, List.setIfInBounds_toArray, List.set_cons_zero, List.set_cons_succ, i64_w, i32_w]
              rfl
            refine pure_ (i := 6) (N := some 42) (v := ?_) (a' := ?_) #[true, true, true, true, true, true, true, false, false, false, false] rfl rfl (any_of HT_.out (by kernel_rfl)) (fun _ _ _ h => h) (Or.inl ⟨by rfl, ?_⟩) ?_ ?_
            rotate_left
            · intro w'
              go_simp
              with_reducible rfl
            rotate_left
            · simp only [Act.put, List.setIfInBounds_toArray, List.set_cons_zero, List.set_cons_succ, i64_w, i32_w]
              rfl
            refine pure_ (i := 7) (N := some 49) (v := ?_) (a' := ?_) #[true, true, true, true, true, true, true, true, false, false, false] rfl rfl (any_of HT_.out (by kernel_rfl)) (fun _ _ _ h => h) (Or.inl ⟨by rfl, ?_⟩) ?_ ?_
            rotate_left
            · intro w'
              go_simp
              with_reducible rfl
            rotate_left
            · simp only [Act.put, List.setIfInBounds_toArray, List.set_cons_zero, List.set_cons_succ, i64_w, i32_w]
              rfl
            refine pure_ (i := 8) (N := some 50) (v := ?_) (a' := ?_) #[true, true, true, true, true, true, true, true, true, false, false] rfl rfl (any_of HT_.out (by kernel_rfl)) (fun _ _ _ h => h) (Or.inl ⟨by rfl, ?_⟩) ?_ ?_
            rotate_left
            · intro w'
              go_simp
              with_reducible rfl
            rotate_left
            · simp only [Act.put, List.setIfInBounds_toArray, List.set_cons_zero, List.set_cons_succ, i64_w, i32_w]
              rfl
            refine pure_ (i := 9) (N := some 9) (v := ?_) (a' := ?_) #[true, true, true, true, true, true, true, true, true, true, false] rfl rfl (any_of HT_.out (by kernel_rfl)) (fun _ _ _ h => h) (Or.inl ⟨by rfl, ?_⟩) ?_ ?_
            rotate_left
            · intro w'
              go_simp
              with_reducible rfl
            rotate_left
            · simp only [Act.put, List.setIfInBounds_toArray, List.set_cons_zero, List.set_cons_succ, i64_w, i32_w]
              rfl
            refine pure_ (i := 10) (N := some 10) (v := ?_) (a' := ?_) #[true, true, true, true, true, true, true, true, true, true, true] rfl rfl (any_of HT_.out (by kernel_rfl)) (fun _ _ _ h => h) (Or.inl ⟨by rfl, ?_⟩) ?_ ?_
            rotate_left
            · intro w'
              go_simp
              with_reducible rfl
            rotate_left
            · simp only [Act.put, List.setIfInBounds_toArray, List.set_cons_zero, List.set_cons_succ, i64_w, i32_w]
              rfl
            refine done_ (done_of HT_.out (by kernel_rfl)) ?_
            try go_wp2
            go_ret
            exact ⟨by first | rfl | (simp [errW_none, errW_some] <;> rfl) | (simp [*, errW_none, errW_some] <;> rfl), by repeat (first | (with_reducible first | exact HB.out | apply below_alloc | apply pw_below_drewN | apply below_drew1 | refine below_set ?_ GE430.out) | exact HB.out)⟩
        · replace c23 := Bool.eq_false_iff.mpr c23
          subst c23
          have H1 : (some false) = some r := by rw [if_neg (show ¬ (false = true) by decide)] at H; exact H
          clear H
          have H := H1
          clear H1
          obtain rfl := Option.some.inj H
          have hcz76_0 : wc.cell? ⟨gb430, 0, none⟩ = some (.int .i64 a1_0) := (blk_cell BK430.out 0).trans rfl
          have hcz76_1 : wc.cell? ⟨gb430, 1, none⟩ = some (.int .i64 a1_1) := (blk_cell BK430.out 1).trans rfl
          have hcz76_2 : wc.cell? ⟨gb430, 2, none⟩ = some (.int .i64 a1_2) := (blk_cell BK430.out 2).trans rfl
          have hcz76_3 : wc.cell? ⟨gb430, 3, none⟩ = some (.int .i64 a1_3) := (blk_cell BK430.out 3).trans rfl
          have hcz76_4 : wc.cell? ⟨gb430, 4, none⟩ = some (.int .i64 a1_4) := (blk_cell BK430.out 4).trans rfl
          have hcz76_5 : wc.cell? ⟨gb430, 5, none⟩ = some (.int .i64 a1_5) := (blk_cell BK430.out 5).trans rfl
          have hfz76_0 := blk_frozen BK430.out 0
          have hfz76_1 := blk_frozen BK430.out 1
          have hfz76_2 := blk_frozen BK430.out 2
          have hfz76_3 := blk_frozen BK430.out 3
          have hfz76_4 := blk_frozen BK430.out 4
          have hfz76_5 := blk_frozen BK430.out 5
          try go_wp2
          have n0_ : Aside0 ((((wc.setCell ⟨gb430, 3, none⟩ (.int .i64 0)).setCell ⟨gb430, 4, none⟩ (.int .i64 0)).setCell ⟨gb430, 5, none⟩ (.int .i64 0)).heap[gb430]? = some (.cells #[.int .i64 a1_0, .int .i64 a1_1, .int .i64 a1_2, .int .i64 0, .int .i64 0, .int .i64 0] 23 (0, 0))) := ⟨by (with_reducible repeat (first | refine blk_drewN ?_ _ | refine blk_drew ?_ | refine blk_alloc ?_ _)); refine blk_put (cs := #[.int .i64 a1_0, .int .i64 a1_1, .int .i64 a1_2, .int .i64 0, .int .i64 0, .int .i64 a1_5]) ?_ 5 _ rfl; (with_reducible repeat (first | refine blk_drewN ?_ _ | refine blk_drew ?_ | refine blk_alloc ?_ _)); refine blk_put (cs := #[.int .i64 a1_0, .int .i64 a1_1, .int .i64 a1_2, .int .i64 0, .int .i64 a1_4, .int .i64 a1_5]) ?_ 4 _ rfl; (with_reducible repeat (first | refine blk_drewN ?_ _ | refine blk_drew ?_ | refine blk_alloc ?_ _)); refine blk_put (cs := #[.int .i64 a1_0, .int .i64 a1_1, .int .i64 a1_2, .int .i64 a1_3, .int .i64 a1_4, .int .i64 a1_5]) ?_ 3 _ rfl; (with_reducible repeat (first | refine blk_drewN ?_ _ | refine blk_drew ?_ | refine blk_alloc ?_ _)); exact BK430.out⟩
          have n1_ : Aside0 (Below w.heap.size w (((wc.setCell ⟨gb430, 3, none⟩ (.int .i64 0)).setCell ⟨gb430, 4, none⟩ (.int .i64 0)).setCell ⟨gb430, 5, none⟩ (.int .i64 0))) := ⟨by repeat (first | (with_reducible first | exact HB.out | apply below_alloc | apply pw_below_drewN | apply below_drew1 | refine below_set ?_ GE430.out) | exact HB.out)⟩
          (try clear BK430)
          (try clear HB)
          generalize (((wc.setCell ⟨gb430, 3, none⟩ (.int .i64 0)).setCell ⟨gb430, 4, none⟩ (.int .i64 0)).setCell ⟨gb430, 5, none⟩ (.int .i64 0)) = w77 at n0_ n1_ ⊢
          have BK430 := n0_
          have HB := n1_
          clear n0_ n1_
          have n0_ := Aside0.mk (blk_drew BK430.out)
          have n1_ := Aside0.mk (below_drew1 HB.out)
          clear BK430
          clear HB
          have BK430 := n0_
          have HB := n1_
          clear n0_ n1_
          refine start_ (n := 10) (S := fun w' => w'.cell? ⟨gb430, 0, none⟩ = some (.int .i64 a1_0) ∧ w'.cell? ⟨gb430, 1, none⟩ = some (.int .i64 a1_1) ∧ w'.cell? ⟨gb430, 2, none⟩ = some (.int .i64 a1_2) ∧ w'.cell? ⟨gb430, 3, none⟩ = some (.int .i64 0) ∧ w'.cell? ⟨gb430, 4, none⟩ = some (.int .i64 0) ∧ w'.cell? ⟨gb430, 5, none⟩ = some (.int .i64 0)) (ds := []) #[false, false, false, false, false, false, false, false, false, false] (by kernel_rfl) rfl rfl ⟨(blk_cell BK430.out 0).trans rfl, (blk_cell BK430.out 1).trans rfl, (blk_cell BK430.out 2).trans rfl, (blk_cell BK430.out 3).trans rfl, (blk_cell BK430.out 4).trans rfl, (blk_cell BK430.out 5).trans rfl⟩ (fun hHeld => ?_); refine with_tabW laws_FnMonthNames.tab4 laws_FnMonthNames.bits4 (fun HT_ HW_ => ?_)
          generalize w77.drew = w78 at BK430 HB hHeld ⊢
          refine pure_ (i := 0) (N := some 27) (v := ?_) (a' := ?_) #[true, false, false, false, false, false, false, false, false, false] rfl rfl (any_of HT_.out (by kernel_rfl)) (fun _ _ _ h => h) (Or.inl ⟨by rfl, ?_⟩) ?_ ?_
          rotate_left
          · intro w'
            go_simp
            with_reducible rfl
          rotate_left
          · simp only [Act.put, List.setIfInBounds_toArray, List.set_cons_zero, List.set_cons_succ, i64_w, i32_w]
            rfl
          refine take_ (i := 3) (N := some 30) (v := ?_) (a' := ?_) #[true, false, false, true, false, false, false, false, false, false] rfl rfl (take_ofW HT_.out HW_.out (by kernel_rfl)) (fun _ _ _ h => h) (Or.inl ⟨by rfl, ?_⟩) hHeld ?_ ?_
          rotate_left
          · rintro w' ⟨s0, s1, s2, s3, s4, s5⟩
            go_simp
            with_reducible rfl
          rotate_left
          · simp only [Act.put, List.setIfInBounds_toArray, List.set_cons_zero, List.set_cons_succ, i64_w, i32_w]
            rfl
          refine one_ (i := 1) (N := some 28) #[true, true, false, true, false, false, false, false, false, false] rfl rfl (one_of HT_.out (by kernel_rfl)) (by decide) (fun K hK => ?_)
          refine goes_ Tryz.func16 (by kernel_rfl) rfl #[.int .i64 a0] (by rfl) rfl rfl (by (try simp only [List.map_toArray, List.map_cons, List.map_nil]); first | done | rfl | (simp only [List.length_drop, List.length_take]; rfl)) ?_
          with_reducible refine (spec_Decimal.calls kj2 a0 t438 _ A13.out).mono ?_
          rintro e w' ⟨rfl, ⟨nd, rfl⟩⟩
          refine ⟨_, rfl, ?_⟩
          refine hK.out _ _ ⟨(blk_cell BK430.out 0).trans rfl, (blk_cell BK430.out 1).trans rfl, (blk_cell BK430.out 2).trans rfl, (blk_cell BK430.out 3).trans rfl, (blk_cell BK430.out 4).trans rfl, (blk_cell BK430.out 5).trans rfl⟩ (fun hHeld => ?_)
          clear hK K
          refine norm_ (a' := ?_) ?_ ?_
          rotate_left
          · show Act.put _ (some 28) _ = _
            simp only [Act.put, List.setIfInBounds_toArray, List.set_cons_zero, List.set_cons_succ, i64_w, i32_w]
            rfl
          refine one_ (i := 2) (N := some 29) #[true, true, true, true, false, false, false, false, false, false] rfl rfl (one_of HT_.out (by kernel_rfl)) (by decide) (fun K hK => ?_)
          refine goes_ Tryz.func15 (by kernel_rfl) rfl #[.int .i64 4, .string t438] (by rfl) rfl rfl (by (try simp only [List.map_toArray, List.map_cons, List.map_nil]); first | done | rfl | (simp only [List.length_drop, List.length_take]; rfl)) ?_
          with_reducible refine (laws_stars.calls kj2 4 t438 t439 _ A14.out).mono ?_
          rintro e w' ⟨rfl, ⟨nd, rfl⟩⟩
          refine ⟨_, rfl, ?_⟩
          refine hK.out _ _ ⟨(blk_cell BK430.out 0).trans rfl, (blk_cell BK430.out 1).trans rfl, (blk_cell BK430.out 2).trans rfl, (blk_cell BK430.out 3).trans rfl, (blk_cell BK430.out 4).trans rfl, (blk_cell BK430.out 5).trans rfl⟩ (fun hHeld => ?_)
          clear hK K
          refine norm_ (a' := ?_) ?_ ?_
          rotate_left
          · show Act.put _ (some 29) _ = _
            simp only [Act.put, List.setIfInBounds_toArray, List.set_cons_zero, List.set_cons_succ, i64_w, i32_w]
            rfl
          refine one_ (i := 4) (N := some 31) #[true, true, true, true, true, false, false, false, false, false] rfl rfl (one_of HT_.out (by kernel_rfl)) (by decide) (fun K hK => ?_)
          refine goes_ Tryz.func24 (by kernel_rfl) rfl #[.string t439, .agg #[.int .i64 a1_0, .int .i64 a1_1, .int .i64 a1_2, .int .i64 0, .int .i64 0, .int .i64 0]] (by rfl) rfl rfl (by (try simp only [List.map_toArray, List.map_cons, List.map_nil]); first | done | rfl | (simp only [List.length_drop, List.length_take]; rfl)) ?_
          with_reducible refine (impl_Due.calls t439 a1_0 a1_1 a1_2 0 0 0 t440 false _ A15.out).mono ?_
          rintro e w79 ⟨rfl, hb⟩
          refine ⟨_, rfl, ?_⟩
          have n0_ := Aside0.mk (blk_below (g := gb430) (o := .cells #[.int .i64 a1_0, .int .i64 a1_1, .int .i64 a1_2, .int .i64 0, .int .i64 0, .int .i64 0] 23 (0, 0)) (by (with_reducible repeat (first | refine blk_drewN ?_ _ | refine blk_drew ?_ | refine blk_alloc ?_ _)); exact BK430.out) hb)
          have n1_ := Aside0.mk (below_step (by repeat (first | (with_reducible first | exact HB.out | apply below_alloc | apply pw_below_drewN | apply below_drew1 | refine below_set ?_ GE430.out) | exact HB.out)) hb)
          clear BK430
          clear HB
          have BK430 := n0_
          have HB := n1_
          clear n0_ n1_
          (try clear hb)
          (try clear hb2)
          (try clear hk)
          (try clear hi)
          refine hK.out _ _ ⟨(blk_cell BK430.out 0).trans rfl, (blk_cell BK430.out 1).trans rfl, (blk_cell BK430.out 2).trans rfl, (blk_cell BK430.out 3).trans rfl, (blk_cell BK430.out 4).trans rfl, (blk_cell BK430.out 5).trans rfl⟩ (fun hHeld => ?_)
          clear hK K
          refine norm_ (a' := ?_) ?_ ?_
          rotate_left
          · show Act.put _ (some 31) _ = _
            simp only [Act.put, List.setIfInBounds_toArray, List.set_cons_zero, List.set_cons_succ, i64_w, i32_w]
            rfl
          refine pure_ (i := 5) (N := some 26) (v := ?_) (a' := ?_) #[true, true, true, true, true, true, false, false, false, false] rfl rfl (any_of HT_.out (by kernel_rfl)) (fun _ _ _ h => h) (Or.inl ⟨by rfl, ?_⟩) ?_ ?_
          rotate_left
          · intro w'
            go_simp
            with_reducible rfl
          rotate_left
          · simp only [Act.put, List.setIfInBounds_toArray, List.set_cons_zero, List.set_cons_succ, i64_w, i32_w]
            rfl
          refine pure_ (i := 6) (N := some 32) (v := ?_) (a' := ?_) #[true, true, true, true, true, true, true, false, false, false] rfl rfl (any_of HT_.out (by kernel_rfl)) (fun _ _ _ h => h) (Or.inl ⟨by rfl, ?_⟩) ?_ ?_
          rotate_left
          · intro w'
            go_simp
            with_reducible rfl
          rotate_left
          · simp only [Act.put, List.setIfInBounds_toArray, List.set_cons_zero, List.set_cons_succ, i64_w, i32_w]
            rfl
          refine pure_ (i := 7) (N := some 33) (v := ?_) (a' := ?_) #[true, true, true, true, true, true, true, true, false, false] rfl rfl (any_of HT_.out (by kernel_rfl)) (fun _ _ _ h => h) (Or.inl ⟨by rfl, ?_⟩) ?_ ?_
          rotate_left
          · intro w'
            go_simp
            with_reducible rfl
          rotate_left
          · simp only [Act.put, List.setIfInBounds_toArray, List.set_cons_zero, List.set_cons_succ, i64_w, i32_w]
            rfl
          refine pure_ (i := 8) (N := some 5) (v := ?_) (a' := ?_) #[true, true, true, true, true, true, true, true, true, false] rfl rfl (any_of HT_.out (by kernel_rfl)) (fun _ _ _ h => h) (Or.inl ⟨by rfl, ?_⟩) ?_ ?_
          rotate_left
          · intro w'
            go_simp
            with_reducible rfl
          rotate_left
          · simp only [Act.put, List.setIfInBounds_toArray, List.set_cons_zero, List.set_cons_succ, i64_w, i32_w]
            rfl
          refine pure_ (i := 9) (N := some 6) (v := ?_) (a' := ?_) #[true, true, true, true, true, true, true, true, true, true] rfl rfl (any_of HT_.out (by kernel_rfl)) (fun _ _ _ h => h) (Or.inl ⟨by rfl, ?_⟩) ?_ ?_
          rotate_left
          · intro w'
            go_simp
            with_reducible rfl
          rotate_left
          · simp only [Act.put, List.setIfInBounds_toArray, List.set_cons_zero, List.set_cons_succ, i64_w, i32_w]
            rfl
          refine done_ (done_of HT_.out (by kernel_rfl)) ?_
          try go_wp2
          have n0_ := Aside0.mk (blk_drew BK430.out)
          have n1_ := Aside0.mk (below_drew1 HB.out)
          clear BK430
          clear HB
          have BK430 := n0_
          have HB := n1_
          clear n0_ n1_
          refine start_ (n := 10) (S := fun w' => w'.cell? ⟨gb430, 0, none⟩ = some (.int .i64 a1_0) ∧ w'.cell? ⟨gb430, 1, none⟩ = some (.int .i64 a1_1) ∧ w'.cell? ⟨gb430, 2, none⟩ = some (.int .i64 a1_2) ∧ w'.cell? ⟨gb430, 3, none⟩ = some (.int .i64 0) ∧ w'.cell? ⟨gb430, 4, none⟩ = some (.int .i64 0) ∧ w'.cell? ⟨gb430, 5, none⟩ = some (.int .i64 0)) (ds := []) #[false, false, false, false, false, false, false, false, false, false] (by kernel_rfl) rfl rfl ⟨(blk_cell BK430.out 0).trans rfl, (blk_cell BK430.out 1).trans rfl, (blk_cell BK430.out 2).trans rfl, (blk_cell BK430.out 3).trans rfl, (blk_cell BK430.out 4).trans rfl, (blk_cell BK430.out 5).trans rfl⟩ (fun hHeld => ?_); refine with_tabW laws_FnMonthNames.tab5 laws_FnMonthNames.bits5 (fun HT_ HW_ => ?_)
          generalize w79.drew = w80 at BK430 HB hHeld ⊢
          refine pure_ (i := 0) (N := some 35) (v := ?_) (a' := ?_) #[true, false, false, false, false, false, false, false, false, false] rfl rfl (any_of HT_.out (by kernel_rfl)) (fun _ _ _ h => h) (Or.inl ⟨by rfl, ?_⟩) ?_ ?_
          rotate_left
          · intro w'
            go_simp
            with_reducible rfl
          rotate_left
          · simp only [Act.put, List.setIfInBounds_toArray, List.set_cons_zero, List.set_cons_succ, i64_w, i32_w]
            rfl
          refine take_ (i := 3) (N := some 38) (v := ?_) (a' := ?_) #[true, false, false, true, false, false, false, false, false, false] rfl rfl (take_ofW HT_.out HW_.out (by kernel_rfl)) (fun _ _ _ h => h) (Or.inl ⟨by rfl, ?_⟩) hHeld ?_ ?_
          rotate_left
          · rintro w' ⟨s0, s1, s2, s3, s4, s5⟩
            go_simp
            with_reducible rfl
          rotate_left
          · simp only [Act.put, List.setIfInBounds_toArray, List.set_cons_zero, List.set_cons_succ, i64_w, i32_w]
            rfl
          refine one_ (i := 1) (N := some 36) #[true, true, false, true, false, false, false, false, false, false] rfl rfl (one_of HT_.out (by kernel_rfl)) (by decide) (fun K hK => ?_)
          refine goes_ Tryz.func30 (by kernel_rfl) rfl #[.int .i64 a0] (by rfl) rfl rfl (by (try simp only [List.map_toArray, List.map_cons, List.map_nil]); first | done | rfl | (simp only [List.length_drop, List.length_take]; rfl)) ?_
          with_reducible refine (spec_Month.calls a0 t442 _ A16.out).mono ?_
          rintro e w' ⟨rfl, ⟨nd, rfl⟩⟩
          refine ⟨_, rfl, ?_⟩
          refine hK.out _ _ ⟨(blk_cell BK430.out 0).trans rfl, (blk_cell BK430.out 1).trans rfl, (blk_cell BK430.out 2).trans rfl, (blk_cell BK430.out 3).trans rfl, (blk_cell BK430.out 4).trans rfl, (blk_cell BK430.out 5).trans rfl⟩ (fun hHeld => ?_)
          clear hK K
          refine norm_ (a' := ?_) ?_ ?_
          rotate_left
          · show Act.put _ (some 36) _ = _
            simp only [Act.put, List.setIfInBounds_toArray, List.set_cons_zero, List.set_cons_succ, i64_w, i32_w]
            rfl
          refine one_ (i := 2) (N := some 37) #[true, true, true, true, false, false, false, false, false, false] rfl rfl (one_of HT_.out (by kernel_rfl)) (by decide) (fun K hK => ?_)
          refine goes_ Tryz.func15 (by kernel_rfl) rfl #[.int .i64 4, .string t442] (by rfl) rfl rfl (by (try simp only [List.map_toArray, List.map_cons, List.map_nil]); first | done | rfl | (simp only [List.length_drop, List.length_take]; rfl)) ?_
          with_reducible refine (laws_stars.calls kj2 4 t442 t443 _ A17.out).mono ?_
          rintro e w' ⟨rfl, ⟨nd, rfl⟩⟩
          refine ⟨_, rfl, ?_⟩
          refine hK.out _ _ ⟨(blk_cell BK430.out 0).trans rfl, (blk_cell BK430.out 1).trans rfl, (blk_cell BK430.out 2).trans rfl, (blk_cell BK430.out 3).trans rfl, (blk_cell BK430.out 4).trans rfl, (blk_cell BK430.out 5).trans rfl⟩ (fun hHeld => ?_)
          clear hK K
          refine norm_ (a' := ?_) ?_ ?_
          rotate_left
          · show Act.put _ (some 37) _ = _
            simp only [Act.put, List.setIfInBounds_toArray, List.set_cons_zero, List.set_cons_succ, i64_w, i32_w]
            rfl
          refine one_ (i := 4) (N := some 39) #[true, true, true, true, true, false, false, false, false, false] rfl rfl (one_of HT_.out (by kernel_rfl)) (by decide) (fun K hK => ?_)
          refine goes_ Tryz.func24 (by kernel_rfl) rfl #[.string t443, .agg #[.int .i64 a1_0, .int .i64 a1_1, .int .i64 a1_2, .int .i64 0, .int .i64 0, .int .i64 0]] (by rfl) rfl rfl (by (try simp only [List.map_toArray, List.map_cons, List.map_nil]); first | done | rfl | (simp only [List.length_drop, List.length_take]; rfl)) ?_
          with_reducible refine (impl_Due.calls t443 a1_0 a1_1 a1_2 0 0 0 t444 t445 _ A18.out).mono ?_
          rintro e w81 ⟨rfl, hb⟩
          refine ⟨_, rfl, ?_⟩
          have n0_ := Aside0.mk (blk_below (g := gb430) (o := .cells #[.int .i64 a1_0, .int .i64 a1_1, .int .i64 a1_2, .int .i64 0, .int .i64 0, .int .i64 0] 23 (0, 0)) (by (with_reducible repeat (first | refine blk_drewN ?_ _ | refine blk_drew ?_ | refine blk_alloc ?_ _)); exact BK430.out) hb)
          have n1_ := Aside0.mk (below_step (by repeat (first | (with_reducible first | exact HB.out | apply below_alloc | apply pw_below_drewN | apply below_drew1 | refine below_set ?_ GE430.out) | exact HB.out)) hb)
          clear BK430
          clear HB
          have BK430 := n0_
          have HB := n1_
          clear n0_ n1_
          (try clear hb)
          (try clear hb2)
          (try clear hk)
          (try clear hi)
          refine hK.out _ _ ⟨(blk_cell BK430.out 0).trans rfl, (blk_cell BK430.out 1).trans rfl, (blk_cell BK430.out 2).trans rfl, (blk_cell BK430.out 3).trans rfl, (blk_cell BK430.out 4).trans rfl, (blk_cell BK430.out 5).trans rfl⟩ (fun hHeld => ?_)
          clear hK K
          refine norm_ (a' := ?_) ?_ ?_
          rotate_left
          · show Act.put _ (some 39) _ = _
            simp only [Act.put, List.setIfInBounds_toArray, List.set_cons_zero, List.set_cons_succ, i64_w, i32_w]
            rfl
          refine pure_ (i := 5) (N := some 34) (v := ?_) (a' := ?_) #[true, true, true, true, true, true, false, false, false, false] rfl rfl (any_of HT_.out (by kernel_rfl)) (fun _ _ _ h => h) (Or.inl ⟨by rfl, ?_⟩) ?_ ?_
          rotate_left
          · intro w'
            go_simp
            with_reducible rfl
          rotate_left
          · simp only [Act.put, List.setIfInBounds_toArray, List.set_cons_zero, List.set_cons_succ, i64_w, i32_w]
            rfl
          refine pure_ (i := 6) (N := some 40) (v := ?_) (a' := ?_) #[true, true, true, true, true, true, true, false, false, false] rfl rfl (any_of HT_.out (by kernel_rfl)) (fun _ _ _ h => h) (Or.inl ⟨by rfl, ?_⟩) ?_ ?_
          rotate_left
          · intro w'
            go_simp
            with_reducible rfl
          rotate_left
          · simp only [Act.put, List.setIfInBounds_toArray, List.set_cons_zero, List.set_cons_succ, i64_w, i32_w]
            rfl
          refine pure_ (i := 7) (N := some 41) (v := ?_) (a' := ?_) #[true, true, true, true, true, true, true, true, false, false] rfl rfl (any_of HT_.out (by kernel_rfl)) (fun _ _ _ h => h) (Or.inl ⟨by rfl, ?_⟩) ?_ ?_
          rotate_left
          · intro w'
            go_simp
            with_reducible rfl
          rotate_left
          · simp only [Act.put, List.setIfInBounds_toArray, List.set_cons_zero, List.set_cons_succ, i64_w, i32_w]
            rfl
          refine pure_ (i := 8) (N := some 7) (v := ?_) (a' := ?_) #[true, true, true, true, true, true, true, true, true, false] rfl rfl (any_of HT_.out (by kernel_rfl)) (fun _ _ _ h => h) (Or.inl ⟨by rfl, ?_⟩) ?_ ?_
          rotate_left
          · intro w'
            go_simp
            with_reducible rfl
          rotate_left
          · simp only [Act.put, List.setIfInBounds_toArray, List.set_cons_zero, List.set_cons_succ, i64_w, i32_w]
            rfl
          refine pure_ (i := 9) (N := some 8) (v := ?_) (a' := ?_) #[true, true, true, true, true, true, true, true, true, true] rfl rfl (any_of HT_.out (by kernel_rfl)) (fun _ _ _ h => h) (Or.inl ⟨by rfl, ?_⟩) ?_ ?_
          rotate_left
          · intro w'
            go_simp
            with_reducible rfl
          rotate_left
          · simp only [Act.put, List.setIfInBounds_toArray, List.set_cons_zero, List.set_cons_succ, i64_w, i32_w]
            rfl
          refine done_ (done_of HT_.out (by kernel_rfl)) ?_
          try go_wp2
          have n0_ := Aside0.mk (blk_drew BK430.out)
          have n1_ := Aside0.mk (below_drew1 HB.out)
          clear BK430
          clear HB
          have BK430 := n0_
          have HB := n1_
          clear n0_ n1_
          refine start_ (n := 11) (S := fun w' => w'.cell? ⟨gb430, 0, none⟩ = some (.int .i64 a1_0) ∧ w'.cell? ⟨gb430, 1, none⟩ = some (.int .i64 a1_1) ∧ w'.cell? ⟨gb430, 2, none⟩ = some (.int .i64 a1_2) ∧ w'.cell? ⟨gb430, 3, none⟩ = some (.int .i64 0) ∧ w'.cell? ⟨gb430, 4, none⟩ = some (.int .i64 0) ∧ w'.cell? ⟨gb430, 5, none⟩ = some (.int .i64 0)) (ds := []) #[false, false, false, false, false, false, false, false, false, false, false] (by kernel_rfl) rfl rfl ⟨(blk_cell BK430.out 0).trans rfl, (blk_cell BK430.out 1).trans rfl, (blk_cell BK430.out 2).trans rfl, (blk_cell BK430.out 3).trans rfl, (blk_cell BK430.out 4).trans rfl, (blk_cell BK430.out 5).trans rfl⟩ (fun hHeld => ?_); refine with_tabW laws_FnMonthNames.tab6 laws_FnMonthNames.bits6 (fun HT_ HW_ => ?_)
          generalize w81.drew = w82 at BK430 HB hHeld ⊢
          refine pure_ (i := 0) (N := some 43) (v := ?_) (a' := ?_) #[true, false, false, false, false, false, false, false, false, false, false] rfl rfl (any_of HT_.out (by kernel_rfl)) (fun _ _ _ h => h) (Or.inl ⟨by rfl, ?_⟩) ?_ ?_
          rotate_left
          · intro w'
            go_simp
            with_reducible rfl
          rotate_left
          · simp only [Act.put, List.setIfInBounds_toArray, List.set_cons_zero, List.set_cons_succ, i64_w, i32_w]
            rfl
          refine take_ (i := 4) (N := some 47) (v := ?_) (a' := ?_) #[true, false, false, false, true, false, false, false, false, false, false] rfl rfl (take_ofW HT_.out HW_.out (by kernel_rfl)) (fun _ _ _ h => h) (Or.inl ⟨by rfl, ?_⟩) hHeld ?_ ?_
          rotate_left
          · rintro w' ⟨s0, s1, s2, s3, s4, s5⟩
            go_simp
            with_reducible rfl
          rotate_left
          · simp only [Act.put, List.setIfInBounds_toArray, List.set_cons_zero, List.set_cons_succ, i64_w, i32_w]
            rfl
          refine one_ (i := 1) (N := some 44) #[true, true, false, false, true, false, false, false, false, false, false] rfl rfl (one_of HT_.out (by kernel_rfl)) (by decide) (fun K hK => ?_)
          refine goes_ Tryz.func30 (by kernel_rfl) rfl #[.int .i64 a0] (by rfl) rfl rfl (by (try simp only [List.map_toArray, List.map_cons, List.map_nil]); first | done | rfl | (simp only [List.length_drop, List.length_take]; rfl)) ?_
          with_reducible refine (spec_Month.calls a0 t446 _ A19.out).mono ?_
          rintro e w' ⟨rfl, ⟨nd, rfl⟩⟩
          refine ⟨_, rfl, ?_⟩
          refine hK.out _ _ ⟨(blk_cell BK430.out 0).trans rfl, (blk_cell BK430.out 1).trans rfl, (blk_cell BK430.out 2).trans rfl, (blk_cell BK430.out 3).trans rfl, (blk_cell BK430.out 4).trans rfl, (blk_cell BK430.out 5).trans rfl⟩ (fun hHeld => ?_)
          clear hK K
          refine norm_ (a' := ?_) ?_ ?_
          rotate_left
          · show Act.put _ (some 44) _ = _
            simp only [Act.put, List.setIfInBounds_toArray, List.set_cons_zero, List.set_cons_succ, i64_w, i32_w]
            rfl
          refine one_ (i := 2) (N := some 45) #[true, true, true, false, true, false, false, false, false, false, false] rfl rfl (one_of HT_.out (by kernel_rfl)) (by decide) (fun K hK => ?_)
          refine goes_ Tryz.func26 (by kernel_rfl) rfl #[.string t446] (by rfl) rfl rfl (by (try simp only [List.map_toArray, List.map_cons, List.map_nil]); first | done | rfl | (simp only [List.length_drop, List.length_take]; rfl)) ?_
          with_reducible refine (spec_Lower.calls t446 t447 _ A20.out).mono ?_
          rintro e w83 ⟨rfl, hb⟩
          refine ⟨_, rfl, ?_⟩
          have n0_ := Aside0.mk (blk_below (g := gb430) (o := .cells #[.int .i64 a1_0, .int .i64 a1_1, .int .i64 a1_2, .int .i64 0, .int .i64 0, .int .i64 0] 23 (0, 0)) (by (with_reducible repeat (first | refine blk_drewN ?_ _ | refine blk_drew ?_ | refine blk_alloc ?_ _)); exact BK430.out) hb)
          have n1_ := Aside0.mk (below_step (by repeat (first | (with_reducible first | exact HB.out | apply below_alloc | apply pw_below_drewN | apply below_drew1 | refine below_set ?_ GE430.out) | exact HB.out)) hb)
          clear BK430
          clear HB
          have BK430 := n0_
          have HB := n1_
          clear n0_ n1_
          (try clear hb)
          (try clear hb2)
          (try clear hk)
          (try clear hi)
          refine hK.out _ _ ⟨(blk_cell BK430.out 0).trans rfl, (blk_cell BK430.out 1).trans rfl, (blk_cell BK430.out 2).trans rfl, (blk_cell BK430.out 3).trans rfl, (blk_cell BK430.out 4).trans rfl, (blk_cell BK430.out 5).trans rfl⟩ (fun hHeld => ?_)
          clear hK K
          refine norm_ (a' := ?_) ?_ ?_
          rotate_left
          · show Act.put _ (some 45) _ = _
            simp only [Act.put, List.setIfInBounds_toArray, List.set_cons_zero, List.set_cons_succ, i64_w, i32_w]
            rfl
          refine one_ (i := 3) (N := some 46) #[true, true, true, true, true, false, false, false, false, false, false] rfl rfl (one_of HT_.out (by kernel_rfl)) (by decide) (fun K hK => ?_)
          refine goes_ Tryz.func15 (by kernel_rfl) rfl #[.int .i64 4, .string t447] (by rfl) rfl rfl (by (try simp only [List.map_toArray, List.map_cons, List.map_nil]); first | done | rfl | (simp only [List.length_drop, List.length_take]; rfl)) ?_
          with_reducible refine (laws_stars.calls kj2 4 t447 t448 _ A21.out).mono ?_
          rintro e w' ⟨rfl, ⟨nd, rfl⟩⟩
          refine ⟨_, rfl, ?_⟩
          refine hK.out _ _ ⟨(blk_cell BK430.out 0).trans rfl, (blk_cell BK430.out 1).trans rfl, (blk_cell BK430.out 2).trans rfl, (blk_cell BK430.out 3).trans rfl, (blk_cell BK430.out 4).trans rfl, (blk_cell BK430.out 5).trans rfl⟩ (fun hHeld => ?_)
          clear hK K
          refine norm_ (a' := ?_) ?_ ?_
          rotate_left
          · show Act.put _ (some 46) _ = _
            simp only [Act.put, List.setIfInBounds_toArray, List.set_cons_zero, List.set_cons_succ, i64_w, i32_w]
            rfl
          refine one_ (i := 5) (N := some 48) #[true, true, true, true, true, true, false, false, false, false, false] rfl rfl (one_of HT_.out (by kernel_rfl)) (by decide) (fun K hK => ?_)
          refine goes_ Tryz.func24 (by kernel_rfl) rfl #[.string t448, .agg #[.int .i64 a1_0, .int .i64 a1_1, .int .i64 a1_2, .int .i64 0, .int .i64 0, .int .i64 0]] (by rfl) rfl rfl (by (try simp only [List.map_toArray, List.map_cons, List.map_nil]); first | done | rfl | (simp only [List.length_drop, List.length_take]; rfl)) ?_
          with_reducible refine (impl_Due.calls t448 a1_0 a1_1 a1_2 0 0 0 t449 t450 _ A22.out).mono ?_
          rintro e w84 ⟨rfl, hb⟩
          refine ⟨_, rfl, ?_⟩
          have n0_ := Aside0.mk (blk_below (g := gb430) (o := .cells #[.int .i64 a1_0, .int .i64 a1_1, .int .i64 a1_2, .int .i64 0, .int .i64 0, .int .i64 0] 23 (0, 0)) (by (with_reducible repeat (first | refine blk_drewN ?_ _ | refine blk_drew ?_ | refine blk_alloc ?_ _)); exact BK430.out) hb)
          have n1_ := Aside0.mk (below_step (by repeat (first | (with_reducible first | exact HB.out | apply below_alloc | apply pw_below_drewN | apply below_drew1 | refine below_set ?_ GE430.out) | exact HB.out)) hb)
          clear BK430
          clear HB
          have BK430 := n0_
          have HB := n1_
          clear n0_ n1_
          (try clear hb)
          (try clear hb2)
          (try clear hk)
          (try clear hi)
          refine hK.out _ _ ⟨(blk_cell BK430.out 0).trans rfl, (blk_cell BK430.out 1).trans rfl, (blk_cell BK430.out 2).trans rfl, (blk_cell BK430.out 3).trans rfl, (blk_cell BK430.out 4).trans rfl, (blk_cell BK430.out 5).trans rfl⟩ (fun hHeld => ?_)
          clear hK K
          refine norm_ (a' := ?_) ?_ ?_
          rotate_left
          · show Act.put _ (some 48) _ = _
            simp only [Act.put, List.setIfInBounds_toArray, List.set_cons_zero, List.set_cons_succ, i64_w, i32_w]
            rfl
          refine pure_ (i := 6) (N := some 42) (v := ?_) (a' := ?_) #[true, true, true, true, true, true, true, false, false, false, false] rfl rfl (any_of HT_.out (by kernel_rfl)) (fun _ _ _ h => h) (Or.inl ⟨by rfl, ?_⟩) ?_ ?_
          rotate_left
          · intro w'
            go_simp
            with_reducible rfl
          rotate_left
          · simp only [Act.put, List.setIfInBounds_toArray, List.set_cons_zero, List.set_cons_succ, i64_w, i32_w]
            rfl
          refine pure_ (i := 7) (N := some 49) (v := ?_) (a' := ?_) #[true, true, true, true, true, true, true, true, false, false, false] rfl rfl (any_of HT_.out (by kernel_rfl)) (fun _ _ _ h => h) (Or.inl ⟨by rfl, ?_⟩) ?_ ?_
          rotate_left
          · intro w'
            go_simp
            with_reducible rfl
          rotate_left
          · simp only [Act.put, List.setIfInBounds_toArray, List.set_cons_zero, List.set_cons_succ, i64_w, i32_w]
            rfl
          refine pure_ (i := 8) (N := some 50) (v := ?_) (a' := ?_) #[true, true, true, true, true, true, true, true, true, false, false] rfl rfl (any_of HT_.out (by kernel_rfl)) (fun _ _ _ h => h) (Or.inl ⟨by rfl, ?_⟩) ?_ ?_
          rotate_left
          · intro w'
            go_simp
            with_reducible rfl
          rotate_left
          · simp only [Act.put, List.setIfInBounds_toArray, List.set_cons_zero, List.set_cons_succ, i64_w, i32_w]
            rfl
          refine pure_ (i := 9) (N := some 9) (v := ?_) (a' := ?_) #[true, true, true, true, true, true, true, true, true, true, false] rfl rfl (any_of HT_.out (by kernel_rfl)) (fun _ _ _ h => h) (Or.inl ⟨by rfl, ?_⟩) ?_ ?_
          rotate_left
          · intro w'
            go_simp
            with_reducible rfl
          rotate_left
          · simp only [Act.put, List.setIfInBounds_toArray, List.set_cons_zero, List.set_cons_succ, i64_w, i32_w]
            rfl
          refine pure_ (i := 10) (N := some 10) (v := ?_) (a' := ?_) #[true, true, true, true, true, true, true, true, true, true, true] rfl rfl (any_of HT_.out (by kernel_rfl)) (fun _ _ _ h => h) (Or.inl ⟨by rfl, ?_⟩) ?_ ?_
          rotate_left
          · intro w'
            go_simp
            with_reducible rfl
          rotate_left
          · simp only [Act.put, List.setIfInBounds_toArray, List.set_cons_zero, List.set_cons_succ, i64_w, i32_w]
            rfl
          refine done_ (done_of HT_.out (by kernel_rfl)) ?_
          try go_wp2
          go_ret
          exact ⟨by first | rfl | (simp [errW_none, errW_some] <;> rfl) | (simp [*, errW_none, errW_some] <;> rfl), by repeat (first | (with_reducible first | exact HB.out | apply below_alloc | apply pw_below_drewN | apply below_drew1 | refine below_set ?_ GE430.out) | exact HB.out)⟩
end Go.Proofs.YtkhgeonlohafgaaGreatDoor.Core
namespace Go.Proofs.YtkhgeonlohafgaaGreatDoor.Core
open Go.RowKit Go.Proofs.YtkhgeonlohafgaaGreatDoorW.PrintWords Go.Proofs.YtkhgeonlohafgaaGreatDoorW.PrintLast Go.Proofs.YtkhgeonlohafgaaGreatDoorW.PrintMore
attribute [local go_sem] max2_int min2_int max_two min_two max_three min_three max_four min_four   -- for this text's walks alone
set_option linter.unusedVariables false
set_option linter.unusedSimpArgs false
theorem eqA57 (d : Nat) (w : World) (x0 y0 : Bool) (x1 y1 : Int) (x2 y2 : Int) (x3 y3 : Int) :
    (Op.equalIn (d + 2) 57 (.agg #[.bool x0, .int .i64 x1, .int .i64 x2, .int .i64 x3]) (.agg #[.bool y0, .int .i64 y1, .int .i64 y2, .int .i64 y3])).run Tryz.prog w = .ok (x0 == y0 && (x1 == y1 && (x2 == y2 && (x3 == y3)))) w := by
  refine eqA_of Tryz.underlying57 (by kernel_rfl) ?_
  refine eqf_cons (by rfl) (by go_simp; rfl) (by go_simp; rfl) (by go_simp) ?_
  refine eqf_cons (by rfl) (by go_simp; rfl) (by go_simp; rfl) (by go_simp) ?_
  refine eqf_cons (by rfl) (by go_simp; rfl) (by go_simp; rfl) (by go_simp) ?_
  exact eqf_last (by rfl) (by go_simp; rfl) (by go_simp; rfl) (by go_simp)
end Go.Proofs.YtkhgeonlohafgaaGreatDoor.Core
namespace Go.Proofs.YtkhgeonlohafgaaGreatDoor.Core
open Go.RowKit Go.Proofs.YtkhgeonlohafgaaGreatDoorW.PrintWords Go.Proofs.YtkhgeonlohafgaaGreatDoorW.PrintLast Go.Proofs.YtkhgeonlohafgaaGreatDoorW.PrintMore
attribute [local go_sem] max2_int min2_int max_two min_two max_three min_three max_four min_four   -- for this text's walks alone
set_option linter.unusedVariables false
set_option linter.unusedSimpArgs false
end Go.Proofs.YtkhgeonlohafgaaGreatDoor.Core
namespace Go.Proofs.YtkhgeonlohafgaaGreatDoor.Core
open Go.RowKit Go.Proofs.YtkhgeonlohafgaaGreatDoorW.PrintWords Go.Proofs.YtkhgeonlohafgaaGreatDoorW.PrintLast Go.Proofs.YtkhgeonlohafgaaGreatDoorW.PrintMore
attribute [local go_sem] max2_int min2_int max_two min_two max_three min_three max_four min_four   -- for this text's walks alone
set_option linter.unusedVariables false
set_option linter.unusedSimpArgs false
end Go.Proofs.YtkhgeonlohafgaaGreatDoor.Core
namespace Go.Proofs.YtkhgeonlohafgaaGreatDoor.Core
open Go.RowKit Go.Proofs.YtkhgeonlohafgaaGreatDoorW.PrintWords Go.Proofs.YtkhgeonlohafgaaGreatDoorW.PrintLast Go.Proofs.YtkhgeonlohafgaaGreatDoorW.PrintMore
attribute [local go_sem] max2_int min2_int max_two min_two max_three min_three max_four min_four   -- for this text's walks alone
set_option linter.unusedVariables false
set_option linter.unusedSimpArgs false
end Go.Proofs.YtkhgeonlohafgaaGreatDoor.Core
namespace Go.Proofs.YtkhgeonlohafgaaGreatDoor.Core
open Go.RowKit Go.Proofs.YtkhgeonlohafgaaGreatDoorW.PrintWords Go.Proofs.YtkhgeonlohafgaaGreatDoorW.PrintLast Go.Proofs.YtkhgeonlohafgaaGreatDoorW.PrintMore
attribute [local go_sem] max2_int min2_int max_two min_two max_three min_three max_four min_four   -- for this text's walks alone
set_option linter.unusedVariables false
set_option linter.unusedSimpArgs false
end Go.Proofs.YtkhgeonlohafgaaGreatDoor.Core
namespace Go.Proofs.YtkhgeonlohafgaaGreatDoor.Core
open Go.RowKit Go.Proofs.YtkhgeonlohafgaaGreatDoorW.PrintWords Go.Proofs.YtkhgeonlohafgaaGreatDoorW.PrintLast Go.Proofs.YtkhgeonlohafgaaGreatDoorW.PrintMore
attribute [local go_sem] max2_int min2_int max_two min_two max_three min_three max_four min_four   -- for this text's walks alone
set_option linter.unusedVariables false
set_option linter.unusedSimpArgs false
attribute [local go_sem high] eqA57
end Go.Proofs.YtkhgeonlohafgaaGreatDoor.Core
namespace Go.Proofs.YtkhgeonlohafgaaGreatDoor.Core
open Go.RowKit Go.Proofs.YtkhgeonlohafgaaGreatDoorW.PrintWords Go.Proofs.YtkhgeonlohafgaaGreatDoorW.PrintLast Go.Proofs.YtkhgeonlohafgaaGreatDoorW.PrintMore
attribute [local go_sem] max2_int min2_int max_two min_two max_three min_three max_four min_four   -- for this text's walks alone
set_option linter.unusedVariables false
set_option linter.unusedSimpArgs false
end Go.Proofs.YtkhgeonlohafgaaGreatDoor.Core
namespace Go.Proofs.YtkhgeonlohafgaaGreatDoor.Core
open Go.RowKit Go.Proofs.YtkhgeonlohafgaaGreatDoorW.PrintWords Go.Proofs.YtkhgeonlohafgaaGreatDoorW.PrintLast Go.Proofs.YtkhgeonlohafgaaGreatDoorW.PrintMore
attribute [local go_sem] max2_int min2_int max_two min_two max_three min_three max_four min_four   -- for this text's walks alone
set_option linter.unusedVariables false
set_option linter.unusedSimpArgs false
def gotime_dateToAbsDays.f (a0 : Int) (a1 : Int) (a2 : Int) : Option (Int) := if ((a1) % 4294967296) < 3 then (some (IntKind.u64.wrap ((IntKind.u64.wrap (Int.tdiv (IntKind.u64.wrap (146097 * (IntKind.u64.wrap (Int.tdiv (IntKind.u64.wrap ((IntKind.u64.wrap ((IntKind.u64.wrap (a0)) - 1)) + 292277022400)) 100)))) 4)) + (IntKind.u64.wrap (wrap64 ((wrap64 ((((((1461 * ((Int.tmod (IntKind.u64.wrap ((IntKind.u64.wrap ((IntKind.u64.wrap (a0)) - 1)) + 292277022400)) 100) % 4294967296)) % 4294967296) / 4) + (((((979 * ((((a1) % 4294967296) + (12 * 1)) % 4294967296)) % 4294967296) - 2919) % 4294967296) / 32)) % 4294967296) + a2)) - 1)))))) else (some (IntKind.u64.wrap ((IntKind.u64.wrap (Int.tdiv (IntKind.u64.wrap (146097 * (IntKind.u64.wrap (Int.tdiv (IntKind.u64.wrap ((IntKind.u64.wrap ((IntKind.u64.wrap (a0)) - 0)) + 292277022400)) 100)))) 4)) + (IntKind.u64.wrap (wrap64 ((wrap64 ((((((1461 * ((Int.tmod (IntKind.u64.wrap ((IntKind.u64.wrap ((IntKind.u64.wrap (a0)) - 0)) + 292277022400)) 100) % 4294967296)) % 4294967296) / 4) + (((((979 * (((a1) % 4294967296) + (12 * 0))) % 4294967296) - 2919) % 4294967296) / 32)) % 4294967296) + a2)) - 1))))))
set_option maxHeartbeats 8000000 in
set_option maxRecDepth 100000 in
theorem gotime_dateToAbsDays.calls (a0 : Int) (a1 : Int) (a2 : Int) (r : Int) (w : World) (h : gotime_dateToAbsDays.f a0 a1 a2 = some r) :
    Calls Tryz.prog 69 #[.int .i64 a0, .int .i64 a1, .int .i64 a2] w fun e w' => e = .returned (.int .u64 r) ∧ Drawn0 w w' := by
  have H : (if ((a1) % 4294967296) < 3 then (some (IntKind.u64.wrap ((IntKind.u64.wrap (Int.tdiv (IntKind.u64.wrap (146097 * (IntKind.u64.wrap (Int.tdiv (IntKind.u64.wrap ((IntKind.u64.wrap ((IntKind.u64.wrap (a0)) - 1)) + 292277022400)) 100)))) 4)) + (IntKind.u64.wrap (wrap64 ((wrap64 ((((((1461 * ((Int.tmod (IntKind.u64.wrap ((IntKind.u64.wrap ((IntKind.u64.wrap (a0)) - 1)) + 292277022400)) 100) % 4294967296)) % 4294967296) / 4) + (((((979 * ((((a1) % 4294967296) + (12 * 1)) % 4294967296)) % 4294967296) - 2919) % 4294967296) / 32)) % 4294967296) + a2)) - 1)))))) else (some (IntKind.u64.wrap ((IntKind.u64.wrap (Int.tdiv (IntKind.u64.wrap (146097 * (IntKind.u64.wrap (Int.tdiv (IntKind.u64.wrap ((IntKind.u64.wrap ((IntKind.u64.wrap (a0)) - 0)) + 292277022400)) 100)))) 4)) + (IntKind.u64.wrap (wrap64 ((wrap64 ((((((1461 * ((Int.tmod (IntKind.u64.wrap ((IntKind.u64.wrap ((IntKind.u64.wrap (a0)) - 0)) + 292277022400)) 100) % 4294967296)) % 4294967296) / 4) + (((((979 * (((a1) % 4294967296) + (12 * 0))) % 4294967296) - 2919) % 4294967296) / 32)) % 4294967296) + a2)) - 1))))))) = some r := h
  clear h
  by_cases c4 : ((a1) % 4294967296) < 3
  · rw [if_pos c4] at H
    have c4b0 : decide (((a1) % 4294967296) < 3) = true := decide_eq_true c4
    clear c4
    obtain rfl := Option.some.inj H
    go_enter Tryz.func69, Tryz.ntmps69
    go_wp2
    go_ret
    exact ⟨by first | rfl | (simp; done) | (simp [*]; done), by repeat (first | exact Drawn0.refl _ | apply Drawn0.step)⟩
  · rw [if_neg c4] at H
    have c4b0 : decide (((a1) % 4294967296) < 3) = false := decide_eq_false c4
    clear c4
    obtain rfl := Option.some.inj H
    go_enter Tryz.func69, Tryz.ntmps69
    go_wp2
    go_ret
    exact ⟨by first | rfl | (simp; done) | (simp [*]; done), by repeat (first | exact Drawn0.refl _ | apply Drawn0.step)⟩
end Go.Proofs.YtkhgeonlohafgaaGreatDoor.Core
namespace Go.Proofs.YtkhgeonlohafgaaGreatDoor.Core
open Go.RowKit Go.Proofs.YtkhgeonlohafgaaGreatDoorW.PrintWords Go.Proofs.YtkhgeonlohafgaaGreatDoorW.PrintLast Go.Proofs.YtkhgeonlohafgaaGreatDoorW.PrintMore
attribute [local go_sem] max2_int min2_int max_two min_two max_three min_three max_four min_four   -- for this text's walks alone
set_option linter.unusedVariables false
set_option linter.unusedSimpArgs false
def bits_Mul32.f (a0 : Int) (a1 : Int) : Option (Int × Int) := some (((IntKind.u64.wrap ((IntKind.u64.wrap (a0)) * (IntKind.u64.wrap (a1)))) / 4294967296) % 4294967296, (IntKind.u64.wrap ((IntKind.u64.wrap (a0)) * (IntKind.u64.wrap (a1)))) % 4294967296)
set_option maxHeartbeats 8000000 in
set_option maxRecDepth 100000 in
theorem bits_Mul32.calls (a0 : Int) (a1 : Int) (r1 : Int) (r2 : Int) (w : World) (h : bits_Mul32.f a0 a1 = some (r1, r2)) :
    Calls Tryz.prog 116 #[.int .u32 a0, .int .u32 a1] w fun e w' => e = .returned (.tuple #[.int .u32 r1, .int .u32 r2]) ∧ Drawn0 w w' := by
  have H : (some (((IntKind.u64.wrap ((IntKind.u64.wrap (a0)) * (IntKind.u64.wrap (a1)))) / 4294967296) % 4294967296, (IntKind.u64.wrap ((IntKind.u64.wrap (a0)) * (IntKind.u64.wrap (a1)))) % 4294967296)) = some (r1, r2) := h
  clear h
  simp only [Option.some.injEq, Prod.mk.injEq] at H
  obtain ⟨rfl, rfl⟩ := H
  go_enter Tryz.func116, Tryz.ntmps116
  go_wp2
  go_ret2
  exact ⟨by first | rfl | (simp; done) | (simp [*]; done), by repeat (first | exact Drawn0.refl _ | apply Drawn0.step)⟩
end Go.Proofs.YtkhgeonlohafgaaGreatDoor.Core
namespace Go.Proofs.YtkhgeonlohafgaaGreatDoor.Core
open Go.RowKit Go.Proofs.YtkhgeonlohafgaaGreatDoorW.PrintWords Go.Proofs.YtkhgeonlohafgaaGreatDoorW.PrintLast Go.Proofs.YtkhgeonlohafgaaGreatDoorW.PrintMore
attribute [local go_sem] max2_int min2_int max_two min_two max_three min_three max_four min_four   -- for this text's walks alone
set_option linter.unusedVariables false
set_option linter.unusedSimpArgs false
def gotime_absDays_split.f (a0 : Int) : Option (Int × Int × Int) := (bits_Mul32.f 2939745 (Go.bits .or .u32 ((Int.tmod (IntKind.u64.wrap ((IntKind.u64.wrap (4 * a0)) + 3)) 146097) % 4294967296) 3)).bind fun bt550 => (some (IntKind.u64.wrap (Int.tdiv (IntKind.u64.wrap ((IntKind.u64.wrap (4 * a0)) + 3)) 146097), wrap64 (bt550.1), ((Int.tdiv bt550.2 2939745) % 4294967296) / 4))
set_option maxHeartbeats 8000000 in
set_option maxRecDepth 100000 in
theorem gotime_absDays_split.calls (a0 : Int) (r1 : Int) (r2 : Int) (r3 : Int) (w : World) (h : gotime_absDays_split.f a0 = some (r1, r2, r3)) :
    Calls Tryz.prog 91 #[.int .u64 a0] w fun e w' => e = .returned (.tuple #[.int .u64 r1, .int .i64 r2, .int .i64 r3]) ∧ Drawn0 w w' := by
  have H : ((bits_Mul32.f 2939745 (Go.bits .or .u32 ((Int.tmod (IntKind.u64.wrap ((IntKind.u64.wrap (4 * a0)) + 3)) 146097) % 4294967296) 3)).bind fun bt550 => (some (IntKind.u64.wrap (Int.tdiv (IntKind.u64.wrap ((IntKind.u64.wrap (4 * a0)) + 3)) 146097), wrap64 (bt550.1), ((Int.tdiv bt550.2 2939745) % 4294967296) / 4))) = some (r1, r2, r3) := h
  clear h
  replace H := Option.bind_eq_some_iff.mp H
  obtain ⟨⟨t550, t551⟩, A20, H⟩ := H
  replace H : (some (IntKind.u64.wrap (Int.tdiv (IntKind.u64.wrap ((IntKind.u64.wrap (4 * a0)) + 3)) 146097), wrap64 (t550), ((Int.tdiv t551 2939745) % 4294967296) / 4)) = some (r1, r2, r3) := H
  have A2 := Aside0.mk A20
  clear A20
  simp only [Option.some.injEq, Prod.mk.injEq] at H
  obtain ⟨rfl, rfl, rfl⟩ := H
  go_enter Tryz.func91, Tryz.ntmps91
  go_wp2_with (first | ((with_reducible refine gate_callee (f := 116) rfl ?_); refine goesL_ (some 20) rfl rfl Tryz.func116 (by kernel_rfl) rfl #[.int .u32 2939745, .int .u32 (Go.bits .or .u32 ((Int.tmod (IntKind.u64.wrap ((IntKind.u64.wrap (4 * a0)) + 3)) 146097) % 4294967296) 3)] rfl (by (try simp only [List.map_toArray, List.map_cons, List.map_nil]); first | done | rfl | (simp only [List.length_drop, List.length_take]; rfl)) ?_; (with_reducible refine (bits_Mul32.calls 2939745 (Go.bits .or .u32 ((Int.tmod (IntKind.u64.wrap ((IntKind.u64.wrap (4 * a0)) + 3)) 146097) % 4294967296) 3) t550 t551 _ A2.out).mono ?_); rintro e w' ⟨rfl, ⟨nd, rfl⟩⟩; refine ⟨_, rfl, ?_⟩))
  go_ret3
  exact ⟨by first | rfl | (simp; done) | (simp [*]; done), by repeat (first | exact Drawn0.refl _ | apply Drawn0.step)⟩
end Go.Proofs.YtkhgeonlohafgaaGreatDoor.Core
namespace Go.Proofs.YtkhgeonlohafgaaGreatDoor.Core
open Go.RowKit Go.Proofs.YtkhgeonlohafgaaGreatDoorW.PrintWords Go.Proofs.YtkhgeonlohafgaaGreatDoorW.PrintLast Go.Proofs.YtkhgeonlohafgaaGreatDoorW.PrintMore
attribute [local go_sem] max2_int min2_int max_two min_two max_three min_three max_four min_four   -- for this text's walks alone
set_option linter.unusedVariables false
set_option linter.unusedSimpArgs false
def gotime_absYday_janFeb.f (a0 : Int) : Option (Int) := if a0 ≥ 306 then (some 1) else (some 0)
set_option maxHeartbeats 8000000 in
set_option maxRecDepth 100000 in
theorem gotime_absYday_janFeb.calls (a0 : Int) (r : Int) (w : World) (h : gotime_absYday_janFeb.f a0 = some r) :
    Calls Tryz.prog 92 #[.int .i64 a0] w fun e w' => e = .returned (.int .i64 r) ∧ Drawn0 w w' := by
  have H : (if a0 ≥ 306 then (some 1) else (some 0)) = some r := h
  clear h
  by_cases c2 : a0 ≥ 306
  · rw [if_pos c2] at H
    have c2b0 : decide (306 ≤ a0) = true := decide_eq_true c2
    clear c2
    obtain rfl := Option.some.inj H
    go_enter Tryz.func92, Tryz.ntmps92
    go_wp2
    go_ret
    exact ⟨by first | rfl | (simp; done) | (simp [*]; done), by repeat (first | exact Drawn0.refl _ | apply Drawn0.step)⟩
  · rw [if_neg c2] at H
    have c2b0 : decide (306 ≤ a0) = false := decide_eq_false c2
    clear c2
    obtain rfl := Option.some.inj H
    go_enter Tryz.func92, Tryz.ntmps92
    go_wp2
    go_ret
    exact ⟨by first | rfl | (simp; done) | (simp [*]; done), by repeat (first | exact Drawn0.refl _ | apply Drawn0.step)⟩
end Go.Proofs.YtkhgeonlohafgaaGreatDoor.Core
namespace Go.Proofs.YtkhgeonlohafgaaGreatDoor.Core
open Go.RowKit Go.Proofs.YtkhgeonlohafgaaGreatDoorW.PrintWords Go.Proofs.YtkhgeonlohafgaaGreatDoorW.PrintLast Go.Proofs.YtkhgeonlohafgaaGreatDoorW.PrintMore
attribute [local go_sem] max2_int min2_int max_two min_two max_three min_three max_four min_four   -- for this text's walks alone
set_option linter.unusedVariables false
set_option linter.unusedSimpArgs false
def gotime_absCentury_year.f (a0 : Int) (a1 : Int) (a2 : Int) : Option (Int) := some (wrap64 ((wrap64 ((wrap64 (IntKind.u64.wrap ((IntKind.u64.wrap (a0 * 100)) - 292277022400))) + a1)) + a2))
set_option maxHeartbeats 8000000 in
set_option maxRecDepth 100000 in
theorem gotime_absCentury_year.calls (a0 : Int) (a1 : Int) (a2 : Int) (r : Int) (w : World) (h : gotime_absCentury_year.f a0 a1 a2 = some r) :
    Calls Tryz.prog 93 #[.int .u64 a0, .int .i64 a1, .int .i64 a2] w fun e w' => e = .returned (.int .i64 r) ∧ Drawn0 w w' := by
  have H : (some (wrap64 ((wrap64 ((wrap64 (IntKind.u64.wrap ((IntKind.u64.wrap (a0 * 100)) - 292277022400))) + a1)) + a2))) = some r := h
  clear h
  obtain rfl := Option.some.inj H
  go_enter Tryz.func93, Tryz.ntmps93
  go_wp2
  go_ret
  exact ⟨by first | rfl | (simp; done) | (simp [*]; done), by repeat (first | exact Drawn0.refl _ | apply Drawn0.step)⟩
end Go.Proofs.YtkhgeonlohafgaaGreatDoor.Core
namespace Go.Proofs.YtkhgeonlohafgaaGreatDoor.Core
open Go.RowKit Go.Proofs.YtkhgeonlohafgaaGreatDoorW.PrintWords Go.Proofs.YtkhgeonlohafgaaGreatDoorW.PrintLast Go.Proofs.YtkhgeonlohafgaaGreatDoorW.PrintMore
attribute [local go_sem] max2_int min2_int max_two min_two max_three min_three max_four min_four   -- for this text's walks alone
set_option linter.unusedVariables false
set_option linter.unusedSimpArgs false
def gotime_absYday_split.f (a0 : Int) : Option (Int × Int) := some (((((2141 * ((a0) % 4294967296)) % 4294967296) + 197913) % 4294967296) / 65536, 1 + ((Int.tdiv (Go.bits .and .u32 ((((2141 * ((a0) % 4294967296)) % 4294967296) + 197913) % 4294967296) 65535) 2141) % 4294967296))
set_option maxHeartbeats 8000000 in
set_option maxRecDepth 100000 in
theorem gotime_absYday_split.calls (a0 : Int) (r1 : Int) (r2 : Int) (w : World) (h : gotime_absYday_split.f a0 = some (r1, r2)) :
    Calls Tryz.prog 94 #[.int .i64 a0] w fun e w' => e = .returned (.tuple #[.int .i64 r1, .int .i64 r2]) ∧ Drawn0 w w' := by
  have H : (some (((((2141 * ((a0) % 4294967296)) % 4294967296) + 197913) % 4294967296) / 65536, 1 + ((Int.tdiv (Go.bits .and .u32 ((((2141 * ((a0) % 4294967296)) % 4294967296) + 197913) % 4294967296) 65535) 2141) % 4294967296))) = some (r1, r2) := h
  clear h
  simp only [Option.some.injEq, Prod.mk.injEq] at H
  obtain ⟨rfl, rfl⟩ := H
  go_enter Tryz.func94, Tryz.ntmps94
  go_wp2
  go_ret2
  exact ⟨by first | rfl | (simp; done) | (simp [*]; done), by repeat (first | exact Drawn0.refl _ | apply Drawn0.step)⟩
end Go.Proofs.YtkhgeonlohafgaaGreatDoor.Core
namespace Go.Proofs.YtkhgeonlohafgaaGreatDoor.Core
open Go.RowKit Go.Proofs.YtkhgeonlohafgaaGreatDoorW.PrintWords Go.Proofs.YtkhgeonlohafgaaGreatDoorW.PrintLast Go.Proofs.YtkhgeonlohafgaaGreatDoorW.PrintMore
attribute [local go_sem] max2_int min2_int max_two min_two max_three min_three max_four min_four   -- for this text's walks alone
set_option linter.unusedVariables false
set_option linter.unusedSimpArgs false
def gotime_absMonth_month.f (a0 : Int) (a1 : Int) : Option (Int) := some (wrap64 (a0 - (wrap64 (a1 * 12))))
set_option maxHeartbeats 8000000 in
set_option maxRecDepth 100000 in
theorem gotime_absMonth_month.calls (a0 : Int) (a1 : Int) (r : Int) (w : World) (h : gotime_absMonth_month.f a0 a1 = some r) :
    Calls Tryz.prog 95 #[.int .i64 a0, .int .i64 a1] w fun e w' => e = .returned (.int .i64 r) ∧ Drawn0 w w' := by
  have H : (some (wrap64 (a0 - (wrap64 (a1 * 12))))) = some r := h
  clear h
  obtain rfl := Option.some.inj H
  go_enter Tryz.func95, Tryz.ntmps95
  go_wp2
  go_ret
  exact ⟨by first | rfl | (simp; done) | (simp [*]; done), by repeat (first | exact Drawn0.refl _ | apply Drawn0.step)⟩
end Go.Proofs.YtkhgeonlohafgaaGreatDoor.Core
namespace Go.Proofs.YtkhgeonlohafgaaGreatDoor.Core
open Go.RowKit Go.Proofs.YtkhgeonlohafgaaGreatDoorW.PrintWords Go.Proofs.YtkhgeonlohafgaaGreatDoorW.PrintLast Go.Proofs.YtkhgeonlohafgaaGreatDoorW.PrintMore
attribute [local go_sem] max2_int min2_int max_two min_two max_three min_three max_four min_four   -- for this text's walks alone
set_option linter.unusedVariables false
set_option linter.unusedSimpArgs false
end Go.Proofs.YtkhgeonlohafgaaGreatDoor.Core
namespace Go.Proofs.YtkhgeonlohafgaaGreatDoor.Core
open Go.RowKit Go.Proofs.YtkhgeonlohafgaaGreatDoorW.PrintWords Go.Proofs.YtkhgeonlohafgaaGreatDoorW.PrintLast Go.Proofs.YtkhgeonlohafgaaGreatDoorW.PrintMore
attribute [local go_sem] max2_int min2_int max_two min_two max_three min_three max_four min_four   -- for this text's walks alone
set_option linter.unusedVariables false
set_option linter.unusedSimpArgs false
def gotime_absDays_weekday.f (a0 : Int) : Option (Int) := some (wrap64 (Int.tmod (IntKind.u64.wrap (a0 + 3)) 7))
set_option maxHeartbeats 8000000 in
set_option maxRecDepth 100000 in
theorem gotime_absDays_weekday.calls (a0 : Int) (r : Int) (w : World) (h : gotime_absDays_weekday.f a0 = some r) :
    Calls Tryz.prog 111 #[.int .u64 a0] w fun e w' => e = .returned (.int .i64 r) ∧ Drawn0 w w' := by
  have H : (some (wrap64 (Int.tmod (IntKind.u64.wrap (a0 + 3)) 7))) = some r := h
  clear h
  obtain rfl := Option.some.inj H
  go_enter Tryz.func111, Tryz.ntmps111
  go_wp2
  go_ret
  exact ⟨by first | rfl | (simp; done) | (simp [*]; done), by repeat (first | exact Drawn0.refl _ | apply Drawn0.step)⟩
end Go.Proofs.YtkhgeonlohafgaaGreatDoor.Core
