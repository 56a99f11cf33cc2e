/- Contracts and plain lemmas of this seat (part 2), merged by wip/merge2.py; what is proved stands in the claim's last text. -/
import Derived.Test.YtkhgeonlohafgaaGreatDoorCBou1
import Derived.Test.YtkhgeonlohafgaaGreatDoorProg
import Derived.Below
import Derived.Deep.Draws
import Derived.Deep.AppendLies
import Derived.Maps.AppendAt
import Derived.OwnWalk
import Derived.Laws.BytesArg
import Derived.Laws.MakeOwn
import Derived.Laws.OwnMore
import Derived.Deep.OwnRows
import Derived.Tactics
import Derived.Lib.ConvBytes
import Derived.Laws.Slices
import Derived.WalkKit
import Derived.KernelRfl
import Derived.RowKit3
import Derived.Deep.LoopGhost
import Derived.Deep.QuietTactic
import Derived.BigQuiet
import Derived.WideLaws
import Derived.Deep.DeepCutAuto
import Derived.Deep.CutBlock
import Derived.Deep.RegionHeld3
import Derived.Laws.Rows
import Derived.Lib.AppendStr
import Derived.ArgAppend
import Derived.Laws.IdiomCopy
import Derived.OrdersHeld
import Derived.Laws.BitsLemmas
import Derived.RowKit
import Derived.ChangeKeysEq
import Derived.Barred
import Derived.Lib.Strings
import Derived.Laws.BitsAllLaws
import Derived.WalkSpells
import Derived.WalkLawsBesides
import Derived.Outline
import Derived.Shelf.Strings.Builder1
import Derived.Shelf.Strings.Builder2
import Derived.Shelf.Strings.OnBuilder
import Derived.Shelf.Small.Utf8
import Derived.Shelf.Strconv.Atoi
import Derived.Shelf.Strconv.AtoiErrFast
import Derived.Shelf.Strconv.ParseIntEmpty
import Derived.Shelf.Strconv.AtoiFail
import Derived.Shelf.LaysM
import Derived.Shelf.Strconv.Clone
import Derived.Shelf.Strconv.SyntaxError
import Derived.Shelf.LaysC
import Derived.Shelf.Strconv.ToError
import Derived.Shelf.Strconv.AtoiErr
import Derived.Shelf.Unicode.Latin
import Derived.Shelf.Unicode.DecodeSlow
import Derived.Shelf.Unicode.CaseLookup
import Derived.Shelf.Unicode.CaseConvert
import Derived.Shelf.Unicode.CaseTo
import Derived.Shelf.Unicode.CaseLaid
namespace Go.Proofs.YtkhgeonlohafgaaGreatDoor.Core
open Go.RowKit Go.Proofs.YtkhgeonlohafgaaGreatDoorW.PrintWords Go.Proofs.YtkhgeonlohafgaaGreatDoorW.PrintLast Go.Proofs.YtkhgeonlohafgaaGreatDoorW.PrintMore
attribute [local go_sem] max2_int min2_int max_two min_two max_three min_three max_four min_four   -- for this text's walks alone
set_option linter.unusedVariables false
set_option linter.unusedSimpArgs false
def errW : Option Int → Value
  | none => .nilIface
  | some c => .iface 0 (.int .i64 c)
theorem errW_none : errW none = .nilIface := rfl
theorem errW_some (c : Int) : errW (some c) = .iface 0 (.int .i64 c) := rfl
theorem info5 : (Tryz.prog.info? 5).map (fun i => (i.zero, i.size, i.bytes)) = some (some (.int .u8 0), 1, 1) := by kernel_rfl
theorem info9 : (Tryz.prog.info? 9).map (fun i => (i.zero, i.size, i.bytes)) = some (some (.string ⟨#[]⟩), 1, 16) := by kernel_rfl
structure S25 where
  f0 : Int
  f1 : Int
  f2 : Int
  f3 : Int
  f4 : Int
  f5 : Int
structure S23 where
  f0 : Int
  f1 : Int
  f2 : Int
  f3 : Int
  f4 : Int
  f5 : Int
structure S67 where
  f0 : Bool
  f1 : Int
  f2 : Int
  f3 : Int
structure S57 where
  f0 : Bool
  f1 : Int
  f2 : Int
  f3 : Int
def errors_New.f (_a0 : ByteArray) : Option (Option Int) := none
theorem errors_New.calls (a0 : ByteArray) (r : Option Int) (w : World) (h : errors_New.f a0 = some r) :
    Calls Tryz.prog 51 #[.string a0] w fun e w' => e = .returned (errW r) ∧ Below w.heap.size w w' := by cases h
theorem index_arr {P : Program} (t e : TypeId) (n : Nat) (k : IntKind) (l : List Int) (j : Int) (h : P.underlying t = some (.array n e)) (he : P.plainKey e = true) (hz : ∀ w, (sizeOf e).run P w = .ok 1 w) (hl : l.length = n) (h0 : 0 ≤ j) (h1 : j < n) (w : World) :
    (Instr.index t (.agg (l.map fun x => Value.int k x).toArray) (.int .i64 j)).run P w = .ok (.int k (rd l j)) w := by
  have hx : ((l.map fun x => Value.int k x).toArray)[j.toNat * 1]? = some (.int k (rd l j)) := by
    have : j.toNat < l.length := by omega
    simp [rd, this]
  have hp := run_part_plain (w := w) he hx
  have e1 : (Instr.index t (.agg (l.map fun x => Value.int k x).toArray) (.int .i64 j)).run P w = (part e (l.map fun x => Value.int k x).toArray (j.toNat * 1)).run P w := by
    simp [Instr.index, run_underlying h, asIntOf, h0, h1, hz, go_sem]
  rw [e1]
  exact hp
theorem index_T50 (x0 x1 x2 x3 x4 x5 j : Int) (h0 : 0 ≤ j) (h1 : j < 6) (w : World) : (Instr.index 50 (.agg #[.int .i64 x0, .int .i64 x1, .int .i64 x2, .int .i64 x3, .int .i64 x4, .int .i64 x5]) (.int .i64 j)).run Tryz.prog w = .ok (.int .i64 (rd [x0, x1, x2, x3, x4, x5] j)) w :=
  index_arr 50 3 6 .i64 [x0, x1, x2, x3, x4, x5] j Tryz.underlying50 (by kernel_rfl) (fun w => by simp [Tryz.sizeOf3]) rfl h0 h1 w
theorem index_T82 (x0 x1 x2 x3 x4 x5 x6 x7 x8 x9 x10 x11 x12 j : Int) (h0 : 0 ≤ j) (h1 : j < 13) (w : World) : (Instr.index 82 (.agg #[.int .i64 x0, .int .i64 x1, .int .i64 x2, .int .i64 x3, .int .i64 x4, .int .i64 x5, .int .i64 x6, .int .i64 x7, .int .i64 x8, .int .i64 x9, .int .i64 x10, .int .i64 x11, .int .i64 x12]) (.int .i64 j)).run Tryz.prog w = .ok (.int .i64 (rd [x0, x1, x2, x3, x4, x5, x6, x7, x8, x9, x10, x11, x12] j)) w :=
  index_arr 82 3 13 .i64 [x0, x1, x2, x3, x4, x5, x6, x7, x8, x9, x10, x11, x12] j Tryz.underlying82 (by kernel_rfl) (fun w => by simp [Tryz.sizeOf3]) rfl h0 h1 w
end Go.Proofs.YtkhgeonlohafgaaGreatDoor.Core
namespace Go.Proofs.YtkhgeonlohafgaaGreatDoor.Core
open Go.RowKit Go.Proofs.YtkhgeonlohafgaaGreatDoorW.PrintWords Go.Proofs.YtkhgeonlohafgaaGreatDoorW.PrintLast Go.Proofs.YtkhgeonlohafgaaGreatDoorW.PrintMore
attribute [local go_sem] max2_int min2_int max_two min_two max_three min_three max_four min_four   -- for this text's walks alone
set_option linter.unusedVariables false
set_option linter.unusedSimpArgs false
def laws_moment.f (a0_0 : Int) (a0_1 : Int) (a0_2 : Int) (a0_3 : Int) (a0_4 : Int) (a0_5 : Int) : Option (Int × Int × Int × Int × Int × Int) := some (a0_0, a0_1, a0_2, a0_3, a0_4, a0_5)
set_option maxHeartbeats 8000000 in
set_option maxRecDepth 100000 in
theorem laws_moment.calls (a0_0 : Int) (a0_1 : Int) (a0_2 : Int) (a0_3 : Int) (a0_4 : Int) (a0_5 : Int) (r1 : Int) (r2 : Int) (r3 : Int) (r4 : Int) (r5 : Int) (r6 : Int) (w : World) (h : laws_moment.f a0_0 a0_1 a0_2 a0_3 a0_4 a0_5 = some (r1, r2, r3, r4, r5, r6)) :
    Calls Tryz.prog 13 #[.agg #[.int .i64 a0_0, .int .i64 a0_1, .int .i64 a0_2, .int .i64 a0_3, .int .i64 a0_4, .int .i64 a0_5]] w fun e w' => e = .returned (.agg #[.int .i64 r1, .int .i64 r2, .int .i64 r3, .int .i64 r4, .int .i64 r5, .int .i64 r6]) ∧ Below w.heap.size w w' := by
  have hu23 := Tryz.underlying23
  have hu25 := Tryz.underlying25
  have HB := Aside0.mk (Below.refl w.heap.size w)
  have H : (some (a0_0, a0_1, a0_2, a0_3, a0_4, a0_5)) = some (r1, r2, r3, r4, r5, r6) := h
  clear h
  simp only [Option.some.injEq, Prod.mk.injEq] at H
  obtain ⟨rfl, rfl, rfl, rfl, rfl, rfl⟩ := H
  go_enter Tryz.func13, Tryz.ntmps13
  go_wp2_with (first | ((with_reducible refine gate_dst (N := 1) rfl ?_); refine box_event ?hg (N := 1) ?hd (cs := #[.int .i64 a0_0, .int .i64 a0_1, .int .i64 a0_2, .int .i64 a0_3, .int .i64 a0_4, .int .i64 a0_5]) (t := 23) ?hr ?_; (case hd => rfl); (case hg => rfl); (case hr => first | (go_simp; done) | (go_simp; rfl)); intro gb101 hg w2 hbox hb; have n0_ := Aside0.mk (below_step (by repeat (first | (with_reducible first | exact HB.out | apply below_alloc | apply pw_below_drewN | apply below_drew1) | exact HB.out)) hb); have n1_ := Aside0.mk (hbox); have n2_ := Aside0.mk ((by rw [hg]; exact (below_size (by repeat (first | (with_reducible first | exact HB.out | apply below_alloc | apply pw_below_drewN | apply below_drew1) | exact HB.out))) : w.heap.size ≤ gb101)); have n3_ := Aside0.mk ((by rw [hg]; exact (below_size (by repeat (first | (with_reducible first | exact HB.out | apply below_alloc | apply pw_below_drewN | apply below_drew1) | exact HB.out))) : w.heap.size ≤ gb101)); clear HB; have HB := n0_; have BK101 := n1_; have GW101 := n2_; have GE101 := n3_; clear n0_ n1_ n2_ n3_; clear hb hbox hg) | ((with_reducible refine gate_dst (N := 2) rfl ?_); refine box_event ?hg (N := 2) ?hd (cs := #[.int .i64 0, .int .i64 0, .int .i64 0, .int .i64 0, .int .i64 0, .int .i64 0]) (t := 25) ?hr ?_; (case hd => rfl); (case hg => rfl); (case hr => first | (go_simp; done) | (go_simp; rfl)); intro gb102 hg w3 hbox hb; have n0_ := Aside0.mk (blk_below (g := gb101) (o := .cells #[.int .i64 a0_0, .int .i64 a0_1, .int .i64 a0_2, .int .i64 a0_3, .int .i64 a0_4, .int .i64 a0_5] 23 (0, 0)) (by (with_reducible repeat (first | refine blk_drewN ?_ _ | refine blk_drew ?_ | refine blk_alloc ?_ _)); exact BK101.out) hb); have n1_ := Aside0.mk (below_step (by repeat (first | (with_reducible first | exact HB.out | apply below_alloc | apply pw_below_drewN | apply below_drew1 | refine below_set ?_ GE101.out) | exact HB.out)) hb); have n2_ := Aside0.mk (hbox); have n3_ := Aside0.mk ((by rw [hg]; exact (below_size (by repeat (first | (with_reducible first | exact HB.out | apply below_alloc | apply pw_below_drewN | apply below_drew1 | refine below_set ?_ GE101.out) | exact HB.out))) : w.heap.size ≤ gb102)); have n4_ := Aside0.mk ((by rw [hg]; exact (below_size (by repeat (first | (with_reducible first | exact HB.out | apply below_alloc | apply pw_below_drewN | apply below_drew1 | refine below_set ?_ GE101.out) | exact HB.out))) : w.heap.size ≤ gb102)); have n5_ := Aside0.mk ((by rw [hg]; exact Nat.ne_of_lt (blk_lt (g := gb101) (o := .cells #[.int .i64 a0_0, .int .i64 a0_1, .int .i64 a0_2, .int .i64 a0_3, .int .i64 a0_4, .int .i64 a0_5] 23 (0, 0)) (by (with_reducible repeat (first | refine blk_drewN ?_ _ | refine blk_drew ?_ | refine blk_alloc ?_ _)); exact BK101.out)) : gb101 ≠ gb102)); have n6_ := Aside0.mk ((by rw [hg]; exact Nat.ne_of_gt (blk_lt (g := gb101) (o := .cells #[.int .i64 a0_0, .int .i64 a0_1, .int .i64 a0_2, .int .i64 a0_3, .int .i64 a0_4, .int .i64 a0_5] 23 (0, 0)) (by (with_reducible repeat (first | refine blk_drewN ?_ _ | refine blk_drew ?_ | refine blk_alloc ?_ _)); exact BK101.out)) : gb102 ≠ gb101)); clear BK101; clear HB; have BK101 := n0_; have HB := n1_; have BK102 := n2_; have GW102 := n3_; have GE102 := n4_; have NB101_102 := n5_; have NB102_101 := n6_; clear n0_ n1_ n2_ n3_ n4_ n5_ n6_; clear hb hbox hg; have hnb4 := NB101_102.out; have hnc4 := NB102_101.out; have hcz5_0 : w3.cell? ⟨gb101, 0, none⟩ = some (.int .i64 a0_0) := (blk_cell BK101.out 0).trans rfl; have hcz5_1 : w3.cell? ⟨gb101, 1, none⟩ = some (.int .i64 a0_1) := (blk_cell BK101.out 1).trans rfl; have hcz5_2 : w3.cell? ⟨gb101, 2, none⟩ = some (.int .i64 a0_2) := (blk_cell BK101.out 2).trans rfl; have hcz5_3 : w3.cell? ⟨gb101, 3, none⟩ = some (.int .i64 a0_3) := (blk_cell BK101.out 3).trans rfl; have hcz5_4 : w3.cell? ⟨gb101, 4, none⟩ = some (.int .i64 a0_4) := (blk_cell BK101.out 4).trans rfl; have hcz5_5 : w3.cell? ⟨gb101, 5, none⟩ = some (.int .i64 a0_5) := (blk_cell BK101.out 5).trans rfl; have hfz5_0 := blk_frozen BK101.out 0; have hfz5_1 := blk_frozen BK101.out 1; have hfz5_2 := blk_frozen BK101.out 2; have hfz5_3 := blk_frozen BK101.out 3; have hfz5_4 := blk_frozen BK101.out 4; have hfz5_5 := blk_frozen BK101.out 5; have hcz6_0 : w3.cell? ⟨gb102, 0, none⟩ = some (.int .i64 0) := (blk_cell BK102.out 0).trans rfl; have hcz6_1 : w3.cell? ⟨gb102, 1, none⟩ = some (.int .i64 0) := (blk_cell BK102.out 1).trans rfl; have hcz6_2 : w3.cell? ⟨gb102, 2, none⟩ = some (.int .i64 0) := (blk_cell BK102.out 2).trans rfl; have hcz6_3 : w3.cell? ⟨gb102, 3, none⟩ = some (.int .i64 0) := (blk_cell BK102.out 3).trans rfl; have hcz6_4 : w3.cell? ⟨gb102, 4, none⟩ = some (.int .i64 0) := (blk_cell BK102.out 4).trans rfl; have hcz6_5 : w3.cell? ⟨gb102, 5, none⟩ = some (.int .i64 0) := (blk_cell BK102.out 5).trans rfl; have hfz6_0 := blk_frozen BK102.out 0; have hfz6_1 := blk_frozen BK102.out 1; have hfz6_2 := blk_frozen BK102.out 2; have hfz6_3 := blk_frozen BK102.out 3; have hfz6_4 := blk_frozen BK102.out 4; have hfz6_5 := blk_frozen BK102.out 5))
  refine bodyPost_ret (results_cell_row rfl _ _ gb102 25 #[.int .i64 a0_0, .int .i64 a0_1, .int .i64 a0_2, .int .i64 a0_3, .int .i64 a0_4, .int .i64 a0_5] (0, 0) _ rfl (by (with_reducible repeat (first | refine blk_drewN ?_ _ | refine blk_drew ?_ | refine blk_alloc ?_ _)); refine blk_put (cs := #[.int .i64 a0_0, .int .i64 a0_1, .int .i64 a0_2, .int .i64 a0_3, .int .i64 a0_4, .int .i64 0]) ?_ 5 _ rfl; (with_reducible repeat (first | refine blk_drewN ?_ _ | refine blk_drew ?_ | refine blk_alloc ?_ _)); refine blk_put (cs := #[.int .i64 a0_0, .int .i64 a0_1, .int .i64 a0_2, .int .i64 a0_3, .int .i64 0, .int .i64 0]) ?_ 4 _ rfl; (with_reducible repeat (first | refine blk_drewN ?_ _ | refine blk_drew ?_ | refine blk_alloc ?_ _)); refine blk_put (cs := #[.int .i64 a0_0, .int .i64 a0_1, .int .i64 a0_2, .int .i64 0, .int .i64 0, .int .i64 0]) ?_ 3 _ rfl; (with_reducible repeat (first | refine blk_drewN ?_ _ | refine blk_drew ?_ | refine blk_alloc ?_ _)); refine blk_put (cs := #[.int .i64 a0_0, .int .i64 a0_1, .int .i64 0, .int .i64 0, .int .i64 0, .int .i64 0]) ?_ 2 _ rfl; (with_reducible repeat (first | refine blk_drewN ?_ _ | refine blk_drew ?_ | refine blk_alloc ?_ _)); refine blk_put (cs := #[.int .i64 a0_0, .int .i64 0, .int .i64 0, .int .i64 0, .int .i64 0, .int .i64 0]) ?_ 1 _ rfl; (with_reducible repeat (first | refine blk_drewN ?_ _ | refine blk_drew ?_ | refine blk_alloc ?_ _)); refine blk_put (cs := #[.int .i64 0, .int .i64 0, .int .i64 0, .int .i64 0, .int .i64 0, .int .i64 0]) ?_ 0 _ rfl; (with_reducible repeat (first | refine blk_drewN ?_ _ | refine blk_drew ?_ | refine blk_alloc ?_ _)); exact BK102.out) Tryz.underlying25 rfl (by kernel_rfl)) rfl ?_
  exact ⟨by first | rfl | (simp [errW_none, errW_some] <;> rfl) | (simp [*, errW_none, errW_some] <;> rfl), by repeat (first | (with_reducible first | exact HB.out | apply below_alloc | apply pw_below_drewN | apply below_drew1 | refine below_set ?_ GE101.out | refine below_set ?_ GE102.out) | exact HB.out)⟩
end Go.Proofs.YtkhgeonlohafgaaGreatDoor.Core
namespace Go.Proofs.YtkhgeonlohafgaaGreatDoor.Core
open Go.RowKit Go.Proofs.YtkhgeonlohafgaaGreatDoorW.PrintWords Go.Proofs.YtkhgeonlohafgaaGreatDoorW.PrintLast Go.Proofs.YtkhgeonlohafgaaGreatDoorW.PrintMore
attribute [local go_sem] max2_int min2_int max_two min_two max_three min_three max_four min_four   -- for this text's walks alone
set_option linter.unusedVariables false
set_option linter.unusedSimpArgs false
mutual
def laws_stars.l0 : Nat → Int → ByteArray → ByteArray → Int → Option (ByteArray)
  | 0, _, _, _, _ => none
  | k + 1, x0, x1, x5, x6 => if x6 ≤ 5 then (if x6 < x0 then (laws_stars.j1 k x0 x1 x5 x6 (⟨#[42]⟩ : ByteArray) (decide (x6 ≤ 2))) else (laws_stars.j1 k x0 x1 x5 x6 (⟨#[42]⟩ : ByteArray) false)) else (some x5)
def laws_stars.j1 : Nat → Int → ByteArray → ByteArray → Int → ByteArray → Bool → Option (ByteArray)
  | 0, _, _, _, _, _, _ => none
  | k + 1, x0, x1, x5, x6, x7, x18 => if x18 = true then (laws_stars.j2 k x0 x1 x5 x6 (⟨#[48]⟩ : ByteArray)) else (laws_stars.j2 k x0 x1 x5 x6 x7)
def laws_stars.j2 : Nat → Int → ByteArray → ByteArray → Int → ByteArray → Option (ByteArray)
  | 0, _, _, _, _, _ => none
  | k + 1, x0, x1, x5, x6, x7 => if x6 = x0 then (if x6 > 1 then (if x5.size + 1 ≤ 9223372036854775807 then (if (x5 ++ (⟨#[32]⟩ : ByteArray)).size + x1.size ≤ 9223372036854775807 then (laws_stars.l0 k x0 x1 ((x5 ++ (⟨#[32]⟩ : ByteArray)) ++ x1) (wrap64 (x6 + 1))) else (none)) else (none)) else (if x5.size + x1.size ≤ 9223372036854775807 then (laws_stars.l0 k x0 x1 (x5 ++ x1) (wrap64 (x6 + 1))) else (none))) else (if x6 > 1 then (if x5.size + 1 ≤ 9223372036854775807 then (if (x5 ++ (⟨#[32]⟩ : ByteArray)).size + x7.size ≤ 9223372036854775807 then (laws_stars.l0 k x0 x1 ((x5 ++ (⟨#[32]⟩ : ByteArray)) ++ x7) (wrap64 (x6 + 1))) else (none)) else (none)) else (if x5.size + x7.size ≤ 9223372036854775807 then (laws_stars.l0 k x0 x1 (x5 ++ x7) (wrap64 (x6 + 1))) else (none)))
end
def laws_stars.f (k : Nat) (a0 : Int) (a1 : ByteArray) : Option (ByteArray) := laws_stars.l0 k a0 a1 (⟨#[]⟩ : ByteArray) 1
set_option maxHeartbeats 8000000 in
set_option maxRecDepth 100000 in
theorem laws_stars.calls (k : Nat) (a0 : Int) (a1 : ByteArray) (r : ByteArray) (w : World) (h : laws_stars.f k a0 a1 = some r) :
    Calls Tryz.prog 15 #[.int .i64 a0, .string a1] w fun e w' => e = .returned (.string r) ∧ Drawn0 w w' := by
  have H : (laws_stars.l0 k a0 a1 (⟨#[]⟩ : ByteArray) 1) = some r := h
  clear h
  have H' := Aside0.mk H
  clear H
  go_enter Tryz.func15, Tryz.ntmps15
  go_wp2
  go_loopg [5, 6] k (fun kq v5 v6 w' => ∃ (x5_1 : ByteArray) (x6_1 : Int), v5 = .string x5_1 ∧ v6 = .int .i64 x6_1 ∧ Aside0 (laws_stars.l0 kq a0 a1 x5_1 x6_1 = some r) ∧ Aside0 (kq ≤ k) ∧ Drawn0 w w')
  case atStart => exact ⟨((⟨#[]⟩ : ByteArray)), (1), (by first | rfl | (simp; done) | (simp [*]; done)), (by first | rfl | (simp; done) | (simp [*]; done)), H', ⟨Nat.le_refl _⟩, by repeat (first | exact Drawn0.refl _ | apply Drawn0.step)⟩
  case round =>
    clear H'
    try clear c1
    try clear p2
    obtain ⟨x5_1, x6_1, rfl, rfl, HA, HK1, ⟨m1, rfl⟩⟩ := hrel
    cases gk with
    | zero => exact absurd HA.out (by simp [laws_stars.l0])
    | succ k1 =>
      have H := HA.out
      clear HA
      simp only [laws_stars.l0] at H
      by_cases c3 : x6_1 ≤ 5
      · rw [if_pos c3] at H
        have c3b0 : decide (x6_1 ≤ 5) = true := decide_eq_true c3
        clear c3
        have HC4 := Aside0.mk H
        clear H
        go_upto_region 6 with (fail)
        go_cut [18] (fun v18 wc => ∃ (kq : Nat) (x18_3 : Bool), v18 = .bool x18_3 ∧ Aside0 (laws_stars.j1 kq a0 a1 x5_1 x6_1 (⟨#[42]⟩ : ByteArray) x18_3 = some r) ∧ Aside0 (kq ≤ k1) ∧ Drawn0 w wc)
        case first =>
          have H := HC4.out
          clear HC4
          by_cases c5 : x6_1 < a0
          · rw [if_pos c5] at H
            have c5b0 : decide (x6_1 < a0) = true := decide_eq_true c5
            clear c5
            (first | rw [c5b0] | (simp only [i64_w, i32_w]; rw [c5b0]) | skip)
            have H' := Aside0.mk H
            clear H
            go_wp2
            go_meet
            case rel => exact ⟨_, (decide (x6_1 ≤ 2)), (by first | rfl | (simp; done) | (simp [*]; done)), H', ⟨by have := HK1.out; first | omega | exact Nat.le_refl _⟩, by repeat (first | exact Drawn0.refl _ | apply Drawn0.step)⟩
          · rw [if_neg c5] at H
            have c5b0 : decide (x6_1 < a0) = false := decide_eq_false c5
            clear c5
            (first | rw [c5b0] | (simp only [i64_w, i32_w]; rw [c5b0]) | skip)
            have H' := Aside0.mk H
            clear H
            go_wp2
            go_meet
            case rel => exact ⟨_, (false), (by first | rfl | (simp; done) | (simp [*]; done)), H', ⟨by have := HK1.out; first | omega | exact Nat.le_refl _⟩, by repeat (first | exact Drawn0.refl _ | apply Drawn0.step)⟩
        case rest =>
          clear HC4
          try clear c1
          try clear p2
          try clear c3
          try clear c3b0
          try clear c5
          try clear c5b0
          try clear p2
          obtain ⟨kq, x18_3, rfl, HA, HJ3, ⟨mc3, rfl⟩⟩ := hcut
          cases kq with
          | zero => exact absurd HA.out (by simp [laws_stars.j1])
          | succ kj3 =>
            have H := HA.out
            clear HA
            simp only [laws_stars.j1] at H
            have HC6 := Aside0.mk H
            clear H
            go_upto_if 18 with (fail)
            go_cut [7] (fun v7 wc => ∃ (kq : Nat) (x7_5 : ByteArray), v7 = .string x7_5 ∧ Aside0 (laws_stars.j2 kq a0 a1 x5_1 x6_1 x7_5 = some r) ∧ Aside0 (kq ≤ kj3) ∧ Drawn0 w wc)
            case first =>
              have H := HC6.out
              clear HC6
              by_cases c7 : x18_3 = true
              · subst c7
                have H1 : (laws_stars.j2 kj3 a0 a1 x5_1 x6_1 (⟨#[48]⟩ : ByteArray)) = some r := by rw [if_pos rfl] at H; exact H
                clear H
                have H := H1
                clear H1
                have H' := Aside0.mk H
                clear H
                go_wp2
                go_meet
                case rel => exact ⟨_, ((⟨#[48]⟩ : ByteArray)), (by first | rfl | (simp; done) | (simp [*]; done)), H', ⟨by have := HK1.out; have := HJ3.out; first | omega | exact Nat.le_refl _⟩, by repeat (first | exact Drawn0.refl _ | apply Drawn0.step)⟩
              · replace c7 := Bool.eq_false_iff.mpr c7
                subst c7
                have H1 : (laws_stars.j2 kj3 a0 a1 x5_1 x6_1 (⟨#[42]⟩ : ByteArray)) = some r := by rw [if_neg (show ¬ (false = true) by decide)] at H; exact H
                clear H
                have H := H1
                clear H1
                have H' := Aside0.mk H
                clear H
                go_wp2
                go_meet
                case rel => exact ⟨_, ((⟨#[42]⟩ : ByteArray)), (by first | rfl | (simp; done) | (simp [*]; done)), H', ⟨by have := HK1.out; have := HJ3.out; first | omega | exact Nat.le_refl _⟩, by repeat (first | exact Drawn0.refl _ | apply Drawn0.step)⟩
            case rest =>
              clear HC6
              try clear c1
              try clear p2
              try clear c3
              try clear c3b0
              try clear c5
              try clear c5b0
              try clear c7
              try clear p2
              obtain ⟨kq, x7_5, rfl, HA, HJ5, ⟨mc5, rfl⟩⟩ := hcut
              cases kq with
              | zero => exact absurd HA.out (by simp [laws_stars.j2])
              | succ kj5 =>
                have H := HA.out
                clear HA
                simp only [laws_stars.j2] at H
                by_cases c8 : x6_1 = a0
                · rw [if_pos c8] at H
                  have c8b0 : (x6_1 == a0) = true := beq_iff_eq.mpr c8
                  have c8b1 : (x6_1 != a0) = false := bne_eq_false_iff_eq.mpr c8
                  clear c8
                  by_cases c9 : x6_1 > 1
                  · rw [if_pos c9] at H
                    have c9b0 : decide (1 < x6_1) = true := decide_eq_true c9
                    clear c9
                    by_cases c10 : x5_1.size + 1 ≤ 9223372036854775807
                    · rw [if_pos c10] at H
                      have c10b0 := eq_true c10
                      have c10b1 : decide (x5_1.size + 1 ≤ 9223372036854775807) = true := decide_eq_true c10
                      try have c10b2 : (9223372036854775807 < x5_1.size + 1) = False := eq_false (Nat.not_lt.2 c10)
                      by_cases c11 : (x5_1 ++ (⟨#[32]⟩ : ByteArray)).size + a1.size ≤ 9223372036854775807
                      · rw [if_pos c11] at H
                        have c11b0 := eq_true c11
                        have c11b1 : decide ((x5_1 ++ (⟨#[32]⟩ : ByteArray)).size + a1.size ≤ 9223372036854775807) = true := decide_eq_true c11
                        try have c11b2 : (9223372036854775807 < (x5_1 ++ (⟨#[32]⟩ : ByteArray)).size + a1.size) = False := eq_false (Nat.not_lt.2 c11)
                        (try have c11b3 : (9223372036854775807 < (x5_1.size + 1) + a1.size) = False := eq_false (Nat.not_lt.2 (by have h_ := c11; (try simp only [ByteArray.size_append] at h_); exact h_)))
                        have H' := Aside0.mk H
                        clear H
                        go_wp2
                        go_roundg kj5
                        case measure => have := HK1.out; have := HJ3.out; have := HJ5.out; omega
                        case rel => exact ⟨((x5_1 ++ (⟨#[32]⟩ : ByteArray)) ++ a1), (wrap64 (x6_1 + 1)), (by first | rfl | (simp; done) | (simp [*]; done)), (by first | rfl | (simp; done) | (simp [*]; done)), H', ⟨by have := HK1.out; have := HJ3.out; have := HJ5.out; omega⟩, by repeat (first | exact Drawn0.refl _ | apply Drawn0.step)⟩
                      · rw [if_neg c11] at H
                        exact absurd H (by simp)
                    · rw [if_neg c10] at H
                      exact absurd H (by simp)
                  · rw [if_neg c9] at H
                    have c9b0 : decide (1 < x6_1) = false := decide_eq_false c9
                    clear c9
                    by_cases c12 : x5_1.size + a1.size ≤ 9223372036854775807
                    · rw [if_pos c12] at H
                      have c12b0 := eq_true c12
                      have c12b1 : decide (x5_1.size + a1.size ≤ 9223372036854775807) = true := decide_eq_true c12
                      try have c12b2 : (9223372036854775807 < x5_1.size + a1.size) = False := eq_false (Nat.not_lt.2 c12)
                      have H' := Aside0.mk H
                      clear H
                      go_wp2
                      go_roundg kj5
                      case measure => have := HK1.out; have := HJ3.out; have := HJ5.out; omega
                      case rel => exact ⟨(x5_1 ++ a1), (wrap64 (x6_1 + 1)), (by first | rfl | (simp; done) | (simp [*]; done)), (by first | rfl | (simp; done) | (simp [*]; done)), H', ⟨by have := HK1.out; have := HJ3.out; have := HJ5.out; omega⟩, by repeat (first | exact Drawn0.refl _ | apply Drawn0.step)⟩
                    · rw [if_neg c12] at H
                      exact absurd H (by simp)
                · rw [if_neg c8] at H
                  have c8b0 : (x6_1 == a0) = false := beq_eq_false_iff_ne.mpr c8
                  have c8b1 : (x6_1 != a0) = true := bne_iff_ne.mpr c8
                  by_cases c13 : x6_1 > 1
                  · rw [if_pos c13] at H
                    have c13b0 : decide (1 < x6_1) = true := decide_eq_true c13
                    clear c13
                    by_cases c14 : x5_1.size + 1 ≤ 9223372036854775807
                    · rw [if_pos c14] at H
                      have c14b0 := eq_true c14
                      have c14b1 : decide (x5_1.size + 1 ≤ 9223372036854775807) = true := decide_eq_true c14
                      try have c14b2 : (9223372036854775807 < x5_1.size + 1) = False := eq_false (Nat.not_lt.2 c14)
                      by_cases c15 : (x5_1 ++ (⟨#[32]⟩ : ByteArray)).size + x7_5.size ≤ 9223372036854775807
                      · rw [if_pos c15] at H
                        have c15b0 := eq_true c15
                        have c15b1 : decide ((x5_1 ++ (⟨#[32]⟩ : ByteArray)).size + x7_5.size ≤ 9223372036854775807) = true := decide_eq_true c15
                        try have c15b2 : (9223372036854775807 < (x5_1 ++ (⟨#[32]⟩ : ByteArray)).size + x7_5.size) = False := eq_false (Nat.not_lt.2 c15)
                        (try have c15b3 : (9223372036854775807 < (x5_1.size + 1) + x7_5.size) = False := eq_false (Nat.not_lt.2 (by have h_ := c15; (try simp only [ByteArray.size_append] at h_); exact h_)))
                        have H' := Aside0.mk H
                        clear H
                        go_wp2
                        go_roundg kj5
                        case measure => have := HK1.out; have := HJ3.out; have := HJ5.out; omega
                        case rel => exact ⟨((x5_1 ++ (⟨#[32]⟩ : ByteArray)) ++ x7_5), (wrap64 (x6_1 + 1)), (by first | rfl | (simp; done) | (simp [*]; done)), (by first | rfl | (simp; done) | (simp [*]; done)), H', ⟨by have := HK1.out; have := HJ3.out; have := HJ5.out; omega⟩, by repeat (first | exact Drawn0.refl _ | apply Drawn0.step)⟩
                      · rw [if_neg c15] at H
                        exact absurd H (by simp)
                    · rw [if_neg c14] at H
                      exact absurd H (by simp)
                  · rw [if_neg c13] at H
                    have c13b0 : decide (1 < x6_1) = false := decide_eq_false c13
                    clear c13
                    by_cases c16 : x5_1.size + x7_5.size ≤ 9223372036854775807
                    · rw [if_pos c16] at H
                      have c16b0 := eq_true c16
                      have c16b1 : decide (x5_1.size + x7_5.size ≤ 9223372036854775807) = true := decide_eq_true c16
                      try have c16b2 : (9223372036854775807 < x5_1.size + x7_5.size) = False := eq_false (Nat.not_lt.2 c16)
                      have H' := Aside0.mk H
                      clear H
                      go_wp2
                      go_roundg kj5
                      case measure => have := HK1.out; have := HJ3.out; have := HJ5.out; omega
                      case rel => exact ⟨(x5_1 ++ x7_5), (wrap64 (x6_1 + 1)), (by first | rfl | (simp; done) | (simp [*]; done)), (by first | rfl | (simp; done) | (simp [*]; done)), H', ⟨by have := HK1.out; have := HJ3.out; have := HJ5.out; omega⟩, by repeat (first | exact Drawn0.refl _ | apply Drawn0.step)⟩
                    · rw [if_neg c16] at H
                      exact absurd H (by simp)
      · rw [if_neg c3] at H
        have c3b0 : decide (x6_1 ≤ 5) = false := decide_eq_false c3
        clear c3
        obtain rfl := Option.some.inj H
        go_wp2
        go_ret
        exact ⟨by first | rfl | (simp; done) | (simp [*]; done), by repeat (first | exact Drawn0.refl _ | apply Drawn0.step)⟩
end Go.Proofs.YtkhgeonlohafgaaGreatDoor.Core
namespace Go.Proofs.YtkhgeonlohafgaaGreatDoor.Core
open Go.RowKit Go.Proofs.YtkhgeonlohafgaaGreatDoorW.PrintWords Go.Proofs.YtkhgeonlohafgaaGreatDoorW.PrintLast Go.Proofs.YtkhgeonlohafgaaGreatDoorW.PrintMore
attribute [local go_sem] max2_int min2_int max_two min_two max_three min_three max_four min_four   -- for this text's walks alone
set_option linter.unusedVariables false
set_option linter.unusedSimpArgs false
def spec_Decimal.f : Nat → Int → Option (ByteArray)
  | 0, _ => none
  | k + 1, a0 => if a0 < 10 then (if 0 ≤ a0 then (if a0 ≤ (wrap64 (a0 + 1)) then (if (wrap64 (a0 + 1)) ≤ 10 then (some ((⟨#[48, 49, 50, 51, 52, 53, 54, 55, 56, 57]⟩ : ByteArray).extract (a0 : Int).toNat ((wrap64 (a0 + 1)) : Int).toNat)) else (none)) else (none)) else (none)) else ((spec_Decimal.f k (wrap64 (Int.tdiv a0 10))).bind fun t103 => ((spec_Decimal.f k (Int.tmod a0 10)).bind fun t104 => (if t103.size + t104.size ≤ 9223372036854775807 then (some (t103 ++ t104)) else (none))))
set_option maxHeartbeats 8000000 in
set_option maxRecDepth 100000 in
theorem spec_Decimal.calls (k : Nat) : ∀ (a0 : Int) (r : ByteArray) (w : World) (h : spec_Decimal.f k a0 = some r),
    Calls Tryz.prog 16 #[.int .i64 a0] w fun e w' => e = .returned (.string r) ∧ Drawn0 w w' := by
  induction k using Nat.strongRecOn with
  | _ k ih =>
  intro a0 r w h
  cases k with
  | zero => exact absurd h (by simp [spec_Decimal.f])
  | succ k =>
  simp only [spec_Decimal.f] at h
  have H : (if a0 < 10 then (if 0 ≤ a0 then (if a0 ≤ (wrap64 (a0 + 1)) then (if (wrap64 (a0 + 1)) ≤ 10 then (some ((⟨#[48, 49, 50, 51, 52, 53, 54, 55, 56, 57]⟩ : ByteArray).extract (a0 : Int).toNat ((wrap64 (a0 + 1)) : Int).toNat)) else (none)) else (none)) else (none)) else ((spec_Decimal.f k (wrap64 (Int.tdiv a0 10))).bind fun t103 => ((spec_Decimal.f k (Int.tmod a0 10)).bind fun t104 => (if t103.size + t104.size ≤ 9223372036854775807 then (some (t103 ++ t104)) else (none))))) = some r := h
  clear h
  by_cases c2 : a0 < 10
  · rw [if_pos c2] at H
    have c2b0 : decide (a0 < 10) = true := decide_eq_true c2
    clear c2
    by_cases c3 : 0 ≤ a0
    · rw [if_pos c3] at H
      have c3b0 := eq_true c3
      have c3b1 : decide (0 ≤ a0) = true := decide_eq_true c3
      clear c3
      by_cases c4 : a0 ≤ (wrap64 (a0 + 1))
      · rw [if_pos c4] at H
        have c4b0 := eq_true c4
        have c4b1 : decide (a0 ≤ (wrap64 (a0 + 1))) = true := decide_eq_true c4
        by_cases c5 : (wrap64 (a0 + 1)) ≤ 10
        · rw [if_pos c5] at H
          have c5b0 := eq_true c5
          have c5b1 : decide ((wrap64 (a0 + 1)) ≤ 10) = true := decide_eq_true c5
          obtain rfl := Option.some.inj H
          go_enter Tryz.func16, Tryz.ntmps16
          go_wp2
          go_ret
          exact ⟨by first | rfl | (simp; done) | (simp [*]; done), by repeat (first | exact Drawn0.refl _ | apply Drawn0.step)⟩
        · rw [if_neg c5] at H
          exact absurd H (by simp)
      · rw [if_neg c4] at H
        exact absurd H (by simp)
    · rw [if_neg c3] at H
      exact absurd H (by simp)
  · rw [if_neg c2] at H
    have c2b0 : decide (a0 < 10) = false := decide_eq_false c2
    clear c2
    replace H := Option.bind_eq_some_iff.mp H
    obtain ⟨t103, A60, H⟩ := H
    replace H : ((spec_Decimal.f k (Int.tmod a0 10)).bind fun t104 => (if t103.size + t104.size ≤ 9223372036854775807 then (some (t103 ++ t104)) else (none))) = some r := H
    have A6 := Aside0.mk A60
    clear A60
    replace H := Option.bind_eq_some_iff.mp H
    obtain ⟨t104, A70, H⟩ := H
    replace H : (if t103.size + t104.size ≤ 9223372036854775807 then (some (t103 ++ t104)) else (none)) = some r := H
    have A7 := Aside0.mk A70
    clear A70
    by_cases c8 : t103.size + t104.size ≤ 9223372036854775807
    · rw [if_pos c8] at H
      have c8b0 := eq_true c8
      have c8b1 : decide (t103.size + t104.size ≤ 9223372036854775807) = true := decide_eq_true c8
      try have c8b2 : (9223372036854775807 < t103.size + t104.size) = False := eq_false (Nat.not_lt.2 c8)
      obtain rfl := Option.some.inj H
      go_enter Tryz.func16, Tryz.ntmps16
      go_wp2_with (first | ((with_reducible refine gate_callee (f := 16) rfl ?_); refine goesL_ (some 11) rfl rfl Tryz.func16 (by kernel_rfl) rfl #[.int .i64 (wrap64 (Int.tdiv a0 10))] rfl (by (try simp only [List.map_toArray, List.map_cons, List.map_nil]); first | done | rfl | (simp only [List.length_drop, List.length_take]; rfl)) ?_; (with_reducible refine (ih k (by omega) (wrap64 (Int.tdiv a0 10)) t103 _ A6.out).mono ?_); rintro e w' ⟨rfl, ⟨nd, rfl⟩⟩; refine ⟨_, rfl, ?_⟩) | ((with_reducible refine gate_callee (f := 16) rfl ?_); refine goesL_ (some 14) rfl rfl Tryz.func16 (by kernel_rfl) rfl #[.int .i64 (Int.tmod a0 10)] rfl (by (try simp only [List.map_toArray, List.map_cons, List.map_nil]); first | done | rfl | (simp only [List.length_drop, List.length_take]; rfl)) ?_; (with_reducible refine (ih k (by omega) (Int.tmod a0 10) t104 _ A7.out).mono ?_); rintro e w' ⟨rfl, ⟨nd, rfl⟩⟩; refine ⟨_, rfl, ?_⟩))
      go_ret
      exact ⟨by first | rfl | (simp; done) | (simp [*]; done), by repeat (first | exact Drawn0.refl _ | apply Drawn0.step)⟩
    · rw [if_neg c8] at H
      exact absurd H (by simp)
end Go.Proofs.YtkhgeonlohafgaaGreatDoor.Core
namespace Go.Proofs.YtkhgeonlohafgaaGreatDoor.Core
open Go.RowKit Go.Proofs.YtkhgeonlohafgaaGreatDoorW.PrintWords Go.Proofs.YtkhgeonlohafgaaGreatDoorW.PrintLast Go.Proofs.YtkhgeonlohafgaaGreatDoorW.PrintMore
attribute [local go_sem] max2_int min2_int max_two min_two max_three min_three max_four min_four   -- for this text's walks alone
set_option linter.unusedVariables false
set_option linter.unusedSimpArgs false
def spec_Low.f (a0 : Int) : Option (Int) := if a0 = 3 then (some 1) else (if a0 = 4 then (some 1) else (some 0))
set_option maxHeartbeats 8000000 in
set_option maxRecDepth 100000 in
theorem spec_Low.calls (a0 : Int) (r : Int) (w : World) (h : spec_Low.f a0 = some r) :
    Calls Tryz.prog 17 #[.int .i64 a0] w fun e w' => e = .returned (.int .i64 r) ∧ Drawn0 w w' := by
  have H : (if a0 = 3 then (some 1) else (if a0 = 4 then (some 1) else (some 0))) = some r := h
  clear h
  by_cases c2 : a0 = 3
  · rw [if_pos c2] at H
    have c2b0 : (a0 == 3) = true := beq_iff_eq.mpr c2
    have c2b1 : (a0 != 3) = false := bne_eq_false_iff_eq.mpr c2
    clear c2
    obtain rfl := Option.some.inj H
    go_enter Tryz.func17, Tryz.ntmps17
    go_wp2
    go_ret
    exact ⟨by first | rfl | (simp; done) | (simp [*]; done), by repeat (first | exact Drawn0.refl _ | apply Drawn0.step)⟩
  · rw [if_neg c2] at H
    have c2b0 : (a0 == 3) = false := beq_eq_false_iff_ne.mpr c2
    have c2b1 : (a0 != 3) = true := bne_iff_ne.mpr c2
    by_cases c3 : a0 = 4
    · rw [if_pos c3] at H
      have c3b0 : (a0 == 4) = true := beq_iff_eq.mpr c3
      have c3b1 : (a0 != 4) = false := bne_eq_false_iff_eq.mpr c3
      clear c3
      obtain rfl := Option.some.inj H
      go_enter Tryz.func17, Tryz.ntmps17
      go_wp2
      go_ret
      exact ⟨by first | rfl | (simp; done) | (simp [*]; done), by repeat (first | exact Drawn0.refl _ | apply Drawn0.step)⟩
    · rw [if_neg c3] at H
      have c3b0 : (a0 == 4) = false := beq_eq_false_iff_ne.mpr c3
      have c3b1 : (a0 != 4) = true := bne_iff_ne.mpr c3
      obtain rfl := Option.some.inj H
      go_enter Tryz.func17, Tryz.ntmps17
      go_wp2
      go_ret
      exact ⟨by first | rfl | (simp; done) | (simp [*]; done), by repeat (first | exact Drawn0.refl _ | apply Drawn0.step)⟩
end Go.Proofs.YtkhgeonlohafgaaGreatDoor.Core
namespace Go.Proofs.YtkhgeonlohafgaaGreatDoor.Core
open Go.RowKit Go.Proofs.YtkhgeonlohafgaaGreatDoorW.PrintWords Go.Proofs.YtkhgeonlohafgaaGreatDoorW.PrintLast Go.Proofs.YtkhgeonlohafgaaGreatDoorW.PrintMore
attribute [local go_sem] max2_int min2_int max_two min_two max_three min_three max_four min_four   -- for this text's walks alone
set_option linter.unusedVariables false
set_option linter.unusedSimpArgs false
def spec_High.f (a0 : Int) : Option (Int) := if 0 ≤ a0 then (if a0 < 6 then (some (rd [59, 59, 23, 31, 12, 6] a0)) else (none)) else (none)
set_option maxHeartbeats 8000000 in
set_option maxRecDepth 100000 in
theorem spec_High.calls (a0 : Int) (r : Int) (w : World) (h : spec_High.f a0 = some r) :
    Calls Tryz.prog 18 #[.int .i64 a0] w fun e w' => e = .returned (.int .i64 r) ∧ Drawn0 w w' := by
  have hu50 := Tryz.underlying50
  have H : (if 0 ≤ a0 then (if a0 < 6 then (some (rd [59, 59, 23, 31, 12, 6] a0)) else (none)) else (none)) = some r := h
  clear h
  by_cases c2 : 0 ≤ a0
  · rw [if_pos c2] at H
    have c2b0 : decide (0 ≤ a0) = true := decide_eq_true c2
    clear c2
    by_cases c3 : a0 < 6
    · rw [if_pos c3] at H
      have c3b0 : decide (a0 < 6) = true := decide_eq_true c3
      clear c3
      have hixz105_ := fun w_ : World => (index_T50 59 59 23 31 12 6 a0 (of_decide_eq_true (by first | (with_reducible assumption) | assumption)) (of_decide_eq_true (by first | (with_reducible assumption) | assumption)) w_ : (Instr.index 50 (.agg #[.int .i64 59, .int .i64 59, .int .i64 23, .int .i64 31, .int .i64 12, .int .i64 6]) (.int .i64 a0)).run Tryz.prog w_ = .ok (.int .i64 (rd [59, 59, 23, 31, 12, 6] a0)) w_)
      obtain rfl := Option.some.inj H
      go_enter Tryz.func18, Tryz.ntmps18
      go_wp2
      go_ret
      exact ⟨by first | rfl | (simp; done) | (simp [*]; done), by repeat (first | exact Drawn0.refl _ | apply Drawn0.step)⟩
    · rw [if_neg c3] at H
      exact absurd H (by simp)
  · rw [if_neg c2] at H
    exact absurd H (by simp)
end Go.Proofs.YtkhgeonlohafgaaGreatDoor.Core
namespace Go.Proofs.YtkhgeonlohafgaaGreatDoor.Core
open Go.RowKit
theorem calls_one {P : Program} {f : FuncId} {args : Array Value} {w : World} {r r' : Value} {R R' : World → Prop} (h : Calls P f args w fun e w' => e = .returned r ∧ R w') (h' : Calls P f args w fun e w' => e = .returned r' ∧ R' w') (hi : P.inits.idxOf? f = none) : r = r' := by
  have g : ∀ {q : Value} {Q : World → Prop}, Calls P f args w (fun e w' => e = .returned q ∧ Q w') → Calls P f args w fun | .returned v, w' => v = q ∧ w' = w' | _, _ => False :=
    fun h => h.mono fun e w' h => by obtain ⟨rfl, _⟩ := h; exact ⟨rfl, rfl⟩
  obtain ⟨n, v, w1, e1, r1, _⟩ := (g h).done hi
  obtain ⟨m, v', w2, e2, r2, _⟩ := (g h').done hi
  have := runN_same_end e1 e2
  injection this with hv
  rw [← r1, ← r2, hv]
end Go.Proofs.YtkhgeonlohafgaaGreatDoor.Core
namespace Go.Proofs.YtkhgeonlohafgaaGreatDoor.Core
open Go.RowKit
def GoodC (y mo d h mi s : Int) (b : Bool) : Prop := ∀ w, Calls Tryz.prog 12 #[.agg #[.int .i64 y, .int .i64 mo, .int .i64 d, .int .i64 h, .int .i64 mi, .int .i64 s]] w fun e w' => e = .returned (.bool b) ∧ Below w.heap.size w w'
open Classical in
noncomputable def spec_MomentGood.f (y mo d h mi s : Int) : Option Bool :=
  if hx : ∃ p : Bool, GoodC y mo d h mi s p then some (Classical.choose hx) else none
theorem spec_MomentGood.calls (y mo d h mi s : Int) (r : Bool) (w : World) (hf : spec_MomentGood.f y mo d h mi s = some r) :
    Calls Tryz.prog 12 #[.agg #[.int .i64 y, .int .i64 mo, .int .i64 d, .int .i64 h, .int .i64 mi, .int .i64 s]] w fun e w' => e = .returned (.bool r) ∧ Below w.heap.size w w' := by
  unfold spec_MomentGood.f at hf
  split at hf
  · rename_i hx
    have hp := Classical.choose_spec hx
    rw [Option.some.inj hf] at hp
    exact hp w
  · cases hf
theorem GoodC.eq {y mo d h mi s : Int} {b : Bool} (hd : GoodC y mo d h mi s b) : spec_MomentGood.f y mo d h mi s = some b := by
  have hx : ∃ p : Bool, GoodC y mo d h mi s p := ⟨b, hd⟩
  unfold spec_MomentGood.f
  rw [dif_pos hx]
  have hp := Classical.choose_spec hx
  have e := calls_one (hp default) (hd default) (by kernel_rfl)
  injection e with e
  rw [e]
end Go.Proofs.YtkhgeonlohafgaaGreatDoor.Core
namespace Go.Proofs.YtkhgeonlohafgaaGreatDoor.Core
open Go.RowKit
def ValidC (t : ByteArray) (y mo d h mi s : Int) (b : Bool) : Prop := ∀ w, Calls Tryz.prog 14 #[.string t, .agg #[.int .i64 y, .int .i64 mo, .int .i64 d, .int .i64 h, .int .i64 mi, .int .i64 s]] w fun e w' => e = .returned (.bool b) ∧ Below w.heap.size w w'
open Classical in
noncomputable def impl_Valid.f (t : ByteArray) (y mo d h mi s : Int) : Option Bool :=
  if hx : ∃ p : Bool, ValidC t y mo d h mi s p then some (Classical.choose hx) else none
theorem impl_Valid.calls (t : ByteArray) (y mo d h mi s : Int) (r : Bool) (w : World) (hf : impl_Valid.f t y mo d h mi s = some r) :
    Calls Tryz.prog 14 #[.string t, .agg #[.int .i64 y, .int .i64 mo, .int .i64 d, .int .i64 h, .int .i64 mi, .int .i64 s]] w fun e w' => e = .returned (.bool r) ∧ Below w.heap.size w w' := by
  unfold impl_Valid.f at hf
  split at hf
  · rename_i hx
    have hp := Classical.choose_spec hx
    rw [Option.some.inj hf] at hp
    exact hp w
  · cases hf
theorem ValidC.eq {t : ByteArray} {y mo d h mi s : Int} {b : Bool} (hd : ValidC t y mo d h mi s b) : impl_Valid.f t y mo d h mi s = some b := by
  have hx : ∃ p : Bool, ValidC t y mo d h mi s p := ⟨b, hd⟩
  unfold impl_Valid.f
  rw [dif_pos hx]
  have hp := Classical.choose_spec hx
  have e := calls_one (hp default) (hd default) (by kernel_rfl)
  injection e with e
  rw [e]
end Go.Proofs.YtkhgeonlohafgaaGreatDoor.Core
namespace Go.Proofs.YtkhgeonlohafgaaGreatDoor.Core
open Go.RowKit Go.Proofs.YtkhgeonlohafgaaGreatDoorW.PrintWords Go.Proofs.YtkhgeonlohafgaaGreatDoorW.PrintLast Go.Proofs.YtkhgeonlohafgaaGreatDoorW.PrintMore
attribute [local go_sem] max2_int min2_int max_two min_two max_three min_three max_four min_four   -- for this text's walks alone
set_option linter.unusedVariables false
set_option linter.unusedSimpArgs false
noncomputable def laws_FnBounds.j0 : Nat → Int → Int → Bool → Int → Int → Int → Int → Int → Int → Option (Bool)
  | 0, _, _, _, _, _, _, _, _, _ => none
  | k + 1, x0, x1, x26, x107000, x107001, x107002, x107003, x107004, x107005 => if x26 = true then (some true) else ((spec_Decimal.f k x1).bind fun t114 => ((laws_stars.f k x0 t114).bind fun t115 => ((impl_Valid.f t115 x107000 x107001 x107002 x107003 x107004 x107005).bind fun t116 => ((spec_Low.f x0).bind fun t117 => (if x1 ≥ t117 then ((spec_High.f x0).bind fun t118 => (if (t116 == (decide (x1 ≤ t118))) = true then ((impl_Valid.f (⟨#[48, 32, 48, 32, 49, 32, 49, 32, 48]⟩ : ByteArray) x107000 x107001 x107002 x107003 x107004 x107005).bind fun t119 => (some t119)) else (some false))) else (if (t116 == false) = true then ((impl_Valid.f (⟨#[48, 32, 48, 32, 49, 32, 49, 32, 48]⟩ : ByteArray) x107000 x107001 x107002 x107003 x107004 x107005).bind fun t120 => (some t120)) else (some false)))))))
noncomputable def laws_FnBounds.f (k : Nat) (a0 : Int) (a1 : Int) (a2_0 : Int) (a2_1 : Int) (a2_2 : Int) (a2_3 : Int) (a2_4 : Int) (a2_5 : Int) : Option (Bool) := if a0 < 1 then (laws_FnBounds.j0 k a0 a1 true a2_0 a2_1 a2_2 a2_3 a2_4 a2_5) else (if a0 > 4 then (laws_FnBounds.j0 k a0 a1 true a2_0 a2_1 a2_2 a2_3 a2_4 a2_5) else (if a1 < 0 then (laws_FnBounds.j0 k a0 a1 true a2_0 a2_1 a2_2 a2_3 a2_4 a2_5) else (if a1 > 99 then (laws_FnBounds.j0 k a0 a1 true a2_0 a2_1 a2_2 a2_3 a2_4 a2_5) else ((laws_moment.f a2_0 a2_1 a2_2 a2_3 a2_4 a2_5).bind fun bt107 => ((spec_MomentGood.f bt107.1 bt107.2.1 bt107.2.2.1 bt107.2.2.2.1 bt107.2.2.2.2.1 bt107.2.2.2.2.2).bind fun t113 => (laws_FnBounds.j0 k a0 a1 (!t113) a2_0 a2_1 a2_2 a2_3 a2_4 a2_5))))))
def laws_FnBounds.T3 : Bool × List (List Nat × List Nat) := (true, [([], []), ([], []), ([1], [1]), ([0, 2, 2], [0, 2]), ([], []), ([3, 4, 3], [3, 4]), ([], []), ([], []), ([7, 5], [7]), ([6, 8], [6, 8]), ([9, 8], [9]), ([10], [10]), ([10], [10]), ([12, 10, 10], [10, 12]), ([11, 13, 10], [10, 11, 13]), ([10, 14], [10, 14]), ([5, 15], [5, 15]), ([16, 13], [16]), ([17], [17]), ([18, 17, 17], [17, 18]), ([17, 19], [17, 19]), ([20, 19, 0, 1, 2, 3, 4, 5, 6, 7, 8, 9, 10, 11, 12, 13, 14, 15, 16, 17, 18, 19, 20], [20])])
def laws_FnBounds.B3 : List Nat := [0, 0, 2, 7, 0, 31, 0, 0, 191, 511, 1023, 2047, 2047, 6143, 16383, 32767, 65535, 131071, 262143, 524287, 1048575, 2097151]
theorem laws_FnBounds.tab3 : rtab .any (opsOf Tryz.f3 3) = laws_FnBounds.T3 := by kernel_rfl
theorem laws_FnBounds.bits3 : waitsOk laws_FnBounds.T3.2 laws_FnBounds.B3 = true := by kernel_rfl
set_option maxHeartbeats 8000000 in
set_option maxRecDepth 100000 in
theorem laws_FnBounds.calls (k : Nat) (a0 : Int) (a1 : Int) (a2_0 : Int) (a2_1 : Int) (a2_2 : Int) (a2_3 : Int) (a2_4 : Int) (a2_5 : Int) (r : Bool) (w : World) (h : laws_FnBounds.f k a0 a1 a2_0 a2_1 a2_2 a2_3 a2_4 a2_5 = some r) :
    Calls Tryz.prog 3 #[.int .i64 a0, .int .i64 a1, .agg #[.int .i64 a2_0, .int .i64 a2_1, .int .i64 a2_2, .int .i64 a2_3, .int .i64 a2_4, .int .i64 a2_5]] w fun e w' => e = .returned (.bool r) ∧ Below w.heap.size w w' := by
  have hu23 := Tryz.underlying23
  have HB := Aside0.mk (Below.refl w.heap.size w)
  have H : (if a0 < 1 then (laws_FnBounds.j0 k a0 a1 true a2_0 a2_1 a2_2 a2_3 a2_4 a2_5) else (if a0 > 4 then (laws_FnBounds.j0 k a0 a1 true a2_0 a2_1 a2_2 a2_3 a2_4 a2_5) else (if a1 < 0 then (laws_FnBounds.j0 k a0 a1 true a2_0 a2_1 a2_2 a2_3 a2_4 a2_5) else (if a1 > 99 then (laws_FnBounds.j0 k a0 a1 true a2_0 a2_1 a2_2 a2_3 a2_4 a2_5) else ((laws_moment.f a2_0 a2_1 a2_2 a2_3 a2_4 a2_5).bind fun bt107 => ((spec_MomentGood.f bt107.1 bt107.2.1 bt107.2.2.1 bt107.2.2.2.1 bt107.2.2.2.2.1 bt107.2.2.2.2.2).bind fun t113 => (laws_FnBounds.j0 k a0 a1 (!t113) a2_0 a2_1 a2_2 a2_3 a2_4 a2_5))))))) = some r := h
  clear h
  have HC4 := Aside0.mk H
  clear H
  go_enter Tryz.func3, Tryz.ntmps3
  go_upto_region 1 with (first | ((with_reducible refine gate_dst (N := 5) rfl ?_); refine box_event ?hg (N := 5) ?hd (cs := #[.int .i64 a2_0, .int .i64 a2_1, .int .i64 a2_2, .int .i64 a2_3, .int .i64 a2_4, .int .i64 a2_5]) (t := 23) ?hr ?_; (case hd => rfl); (case hg => rfl); (case hr => first | (go_simp; done) | (go_simp; rfl)); intro gb106 hg w5 hbox hb; have n0_ := Aside0.mk (below_step (by repeat (first | (with_reducible first | exact HB.out | apply below_alloc | apply pw_below_drewN | apply below_drew1) | exact HB.out)) hb); have n1_ := Aside0.mk (hbox); have n2_ := Aside0.mk ((by rw [hg]; exact (below_size (by repeat (first | (with_reducible first | exact HB.out | apply below_alloc | apply pw_below_drewN | apply below_drew1) | exact HB.out))) : w.heap.size ≤ gb106)); have n3_ := Aside0.mk ((by rw [hg]; exact (below_size (by repeat (first | (with_reducible first | exact HB.out | apply below_alloc | apply pw_below_drewN | apply below_drew1) | exact HB.out))) : w.heap.size ≤ gb106)); clear HB; have HB := n0_; have BK106 := n1_; have GW106 := n2_; have GE106 := n3_; clear n0_ n1_ n2_ n3_; clear hb hbox hg))
  (try simp only [Act.put, List.setIfInBounds_toArray, List.set_cons_zero, List.set_cons_succ])
  go_cut [26] (fun v26 wc => ∃ (kq : Nat) (x26_3 : Bool), v26 = .bool x26_3 ∧ Aside0 (laws_FnBounds.j0 kq a0 a1 x26_3 a2_0 a2_1 a2_2 a2_3 a2_4 a2_5 = some r) ∧ Aside0 (kq ≤ k) ∧ Aside0 (wc.heap[gb106]? = some (.cells #[.int .i64 a2_0, .int .i64 a2_1, .int .i64 a2_2, .int .i64 a2_3, .int .i64 a2_4, .int .i64 a2_5] 23 (0, 0))) ∧ Aside0 (Below w.heap.size w wc))
  case first =>
    have H := HC4.out
    clear HC4
    by_cases c6 : a0 < 1
    · rw [if_pos c6] at H
      have c6b0 : decide (a0 < 1) = true := decide_eq_true c6
      clear c6
      (first | rw [c6b0] | (simp only [i64_w, i32_w]; rw [c6b0]) | skip)
      have H' := Aside0.mk H
      clear H
      go_wp2
      go_meet
      case rel => exact ⟨_, (true), (by first | rfl | (simp; done) | (simp [*]; done)), H', ⟨by first | omega | exact Nat.le_refl _⟩, ⟨by (with_reducible repeat (first | refine blk_drewN ?_ _ | refine blk_drew ?_ | refine blk_alloc ?_ _)); exact BK106.out⟩, ⟨by repeat (first | (with_reducible first | exact HB.out | apply below_alloc | apply pw_below_drewN | apply below_drew1 | refine below_set ?_ GE106.out) | exact HB.out)⟩⟩
    · rw [if_neg c6] at H
      have c6b0 : decide (a0 < 1) = false := decide_eq_false c6
      clear c6
      (first | rw [c6b0] | (simp only [i64_w, i32_w]; rw [c6b0]) | skip)
      by_cases c7 : a0 > 4
      · rw [if_pos c7] at H
        have c7b0 : decide (4 < a0) = true := decide_eq_true c7
        clear c7
        have H' := Aside0.mk H
        clear H
        go_wp2
        go_meet
        case rel => exact ⟨_, (true), (by first | rfl | (simp; done) | (simp [*]; done)), H', ⟨by first | omega | exact Nat.le_refl _⟩, ⟨by (with_reducible repeat (first | refine blk_drewN ?_ _ | refine blk_drew ?_ | refine blk_alloc ?_ _)); exact BK106.out⟩, ⟨by repeat (first | (with_reducible first | exact HB.out | apply below_alloc | apply pw_below_drewN | apply below_drew1 | refine below_set ?_ GE106.out) | exact HB.out)⟩⟩
      · rw [if_neg c7] at H
        have c7b0 : decide (4 < a0) = false := decide_eq_false c7
        clear c7
        by_cases c8 : a1 < 0
        · rw [if_pos c8] at H
          have c8b0 : decide (a1 < 0) = true := decide_eq_true c8
          clear c8
          have H' := Aside0.mk H
          clear H
          go_wp2
          go_meet
          case rel => exact ⟨_, (true), (by first | rfl | (simp; done) | (simp [*]; done)), H', ⟨by first | omega | exact Nat.le_refl _⟩, ⟨by (with_reducible repeat (first | refine blk_drewN ?_ _ | refine blk_drew ?_ | refine blk_alloc ?_ _)); exact BK106.out⟩, ⟨by repeat (first | (with_reducible first | exact HB.out | apply below_alloc | apply pw_below_drewN | apply below_drew1 | refine below_set ?_ GE106.out) | exact HB.out)⟩⟩
        · rw [if_neg c8] at H
          have c8b0 : decide (a1 < 0) = false := decide_eq_false c8
          clear c8
          by_cases c9 : a1 > 99
          · rw [if_pos c9] at H
            have c9b0 : decide (99 < a1) = true := decide_eq_true c9
            clear c9
            have H' := Aside0.mk H
            clear H
            go_wp2
            go_meet
            case rel => exact ⟨_, (true), (by first | rfl | (simp; done) | (simp [*]; done)), H', ⟨by first | omega | exact Nat.le_refl _⟩, ⟨by (with_reducible repeat (first | refine blk_drewN ?_ _ | refine blk_drew ?_ | refine blk_alloc ?_ _)); exact BK106.out⟩, ⟨by repeat (first | (with_reducible first | exact HB.out | apply below_alloc | apply pw_below_drewN | apply below_drew1 | refine below_set ?_ GE106.out) | exact HB.out)⟩⟩
          · rw [if_neg c9] at H
            have c9b0 : decide (99 < a1) = false := decide_eq_false c9
            clear c9
            replace H := Option.bind_eq_some_iff.mp H
            obtain ⟨⟨t107, t108, t109, t110, t111, t112⟩, A100, H⟩ := H
            replace H : ((spec_MomentGood.f t107 t108 t109 t110 t111 t112).bind fun t113 => (laws_FnBounds.j0 k a0 a1 (!t113) a2_0 a2_1 a2_2 a2_3 a2_4 a2_5)) = some r := H
            have A10 := Aside0.mk A100
            clear A100
            replace H := Option.bind_eq_some_iff.mp H
            obtain ⟨t113, A110, H⟩ := H
            replace H : (laws_FnBounds.j0 k a0 a1 (!t113) a2_0 a2_1 a2_2 a2_3 a2_4 a2_5) = some r := H
            have A11 := Aside0.mk A110
            clear A110
            have H' := Aside0.mk H
            clear H
            have hcz12_0 : w5.cell? ⟨gb106, 0, none⟩ = some (.int .i64 a2_0) := (blk_cell BK106.out 0).trans rfl
            have hcz12_1 : w5.cell? ⟨gb106, 1, none⟩ = some (.int .i64 a2_1) := (blk_cell BK106.out 1).trans rfl
            have hcz12_2 : w5.cell? ⟨gb106, 2, none⟩ = some (.int .i64 a2_2) := (blk_cell BK106.out 2).trans rfl
            have hcz12_3 : w5.cell? ⟨gb106, 3, none⟩ = some (.int .i64 a2_3) := (blk_cell BK106.out 3).trans rfl
            have hcz12_4 : w5.cell? ⟨gb106, 4, none⟩ = some (.int .i64 a2_4) := (blk_cell BK106.out 4).trans rfl
            have hcz12_5 : w5.cell? ⟨gb106, 5, none⟩ = some (.int .i64 a2_5) := (blk_cell BK106.out 5).trans rfl
            have hfz12_0 := blk_frozen BK106.out 0
            have hfz12_1 := blk_frozen BK106.out 1
            have hfz12_2 := blk_frozen BK106.out 2
            have hfz12_3 := blk_frozen BK106.out 3
            have hfz12_4 := blk_frozen BK106.out 4
            have hfz12_5 := blk_frozen BK106.out 5
            go_wp2_with (first | (go_at_call 13; (with_reducible refine (laws_moment.calls a2_0 a2_1 a2_2 a2_3 a2_4 a2_5 t107 t108 t109 t110 t111 t112 _ A10.out).mono ?_); rintro e w13 ⟨rfl, hb⟩; have n0_ := Aside0.mk (blk_below (g := gb106) (o := .cells #[.int .i64 a2_0, .int .i64 a2_1, .int .i64 a2_2, .int .i64 a2_3, .int .i64 a2_4, .int .i64 a2_5] 23 (0, 0)) (by (with_reducible repeat (first | refine blk_drewN ?_ _ | refine blk_drew ?_ | refine blk_alloc ?_ _)); exact BK106.out) hb); have n1_ := Aside0.mk (below_step (by repeat (first | (with_reducible first | exact HB.out | apply below_alloc | apply pw_below_drewN | apply below_drew1 | refine below_set ?_ GE106.out) | exact HB.out)) hb); clear BK106; clear HB; have BK106 := n0_; have HB := n1_; clear n0_ n1_; (try clear hb); (try clear hb2); (try clear hk); (try clear hi)) | (go_at_call 12; (with_reducible refine (spec_MomentGood.calls t107 t108 t109 t110 t111 t112 t113 _ A11.out).mono ?_); rintro e w14 ⟨rfl, hb⟩; have n0_ := Aside0.mk (blk_below (g := gb106) (o := .cells #[.int .i64 a2_0, .int .i64 a2_1, .int .i64 a2_2, .int .i64 a2_3, .int .i64 a2_4, .int .i64 a2_5] 23 (0, 0)) (by (with_reducible repeat (first | refine blk_drewN ?_ _ | refine blk_drew ?_ | refine blk_alloc ?_ _)); exact BK106.out) hb); have n1_ := Aside0.mk (below_step (by repeat (first | (with_reducible first | exact HB.out | apply below_alloc | apply pw_below_drewN | apply below_drew1 | refine below_set ?_ GE106.out) | exact HB.out)) hb); clear BK106; clear HB; have BK106 := n0_; have HB := n1_; clear n0_ n1_; (try clear hb); (try clear hb2); (try clear hk); (try clear hi)))
            go_meet
            case rel => exact ⟨_, (!t113), (by first | rfl | (simp; done) | (simp [*]; done)), H', ⟨by first | omega | exact Nat.le_refl _⟩, ⟨by (with_reducible repeat (first | refine blk_drewN ?_ _ | refine blk_drew ?_ | refine blk_alloc ?_ _)); exact BK106.out⟩, ⟨by repeat (first | (with_reducible first | exact HB.out | apply below_alloc | apply pw_below_drewN | apply below_drew1 | refine below_set ?_ GE106.out) | exact HB.out)⟩⟩
  case rest =>
    clear HC4
    try clear p2
    try clear c3
    try clear c6
    try clear c6b0
    try clear c7
    try clear c7b0
    try clear c8
    try clear c8b0
    try clear c9
    try clear c9b0
    try clear hcz12_0
    try clear hcz12_1
    try clear hcz12_2
    try clear hcz12_3
    try clear hcz12_4
    try clear hcz12_5
    try clear hfz12_0
    try clear hfz12_1
    try clear hfz12_2
    try clear hfz12_3
    try clear hfz12_4
    try clear hfz12_5
    obtain ⟨kq, x26_3, rfl, HA, HJ3, BK106, HB⟩ := hcut
    cases kq with
    | zero => exact absurd HA.out (by simp [laws_FnBounds.j0])
    | succ kj3 =>
      have H := HA.out
      clear HA
      simp only [laws_FnBounds.j0] at H
      by_cases c15 : x26_3 = true
      · subst c15
        have H1 : (some true) = some r := by rw [if_pos rfl] at H; exact H
        clear H
        have H := H1
        clear H1
        obtain rfl := Option.some.inj H
        go_wp2
        go_ret
        exact ⟨by first | rfl | (simp [errW_none, errW_some] <;> rfl) | (simp [*, errW_none, errW_some] <;> rfl), by repeat (first | (with_reducible first | exact HB.out | apply below_alloc | apply pw_below_drewN | apply below_drew1 | refine below_set ?_ GE106.out) | exact HB.out)⟩
      · replace c15 := Bool.eq_false_iff.mpr c15
        subst c15
        have H1 : ((spec_Decimal.f kj3 a1).bind fun t114 => ((laws_stars.f kj3 a0 t114).bind fun t115 => ((impl_Valid.f t115 a2_0 a2_1 a2_2 a2_3 a2_4 a2_5).bind fun t116 => ((spec_Low.f a0).bind fun t117 => (if a1 ≥ t117 then ((spec_High.f a0).bind fun t118 => (if (t116 == (decide (a1 ≤ t118))) = true then ((impl_Valid.f (⟨#[48, 32, 48, 32, 49, 32, 49, 32, 48]⟩ : ByteArray) a2_0 a2_1 a2_2 a2_3 a2_4 a2_5).bind fun t119 => (some t119)) else (some false))) else (if (t116 == false) = true then ((impl_Valid.f (⟨#[48, 32, 48, 32, 49, 32, 49, 32, 48]⟩ : ByteArray) a2_0 a2_1 a2_2 a2_3 a2_4 a2_5).bind fun t120 => (some t120)) else (some false))))))) = some r := by rw [if_neg (show ¬ (false = true) by decide)] at H; exact H
        clear H
        have H := H1
        clear H1
        replace H := Option.bind_eq_some_iff.mp H
        obtain ⟨t114, A160, H⟩ := H
        replace H : ((laws_stars.f kj3 a0 t114).bind fun t115 => ((impl_Valid.f t115 a2_0 a2_1 a2_2 a2_3 a2_4 a2_5).bind fun t116 => ((spec_Low.f a0).bind fun t117 => (if a1 ≥ t117 then ((spec_High.f a0).bind fun t118 => (if (t116 == (decide (a1 ≤ t118))) = true then ((impl_Valid.f (⟨#[48, 32, 48, 32, 49, 32, 49, 32, 48]⟩ : ByteArray) a2_0 a2_1 a2_2 a2_3 a2_4 a2_5).bind fun t119 => (some t119)) else (some false))) else (if (t116 == false) = true then ((impl_Valid.f (⟨#[48, 32, 48, 32, 49, 32, 49, 32, 48]⟩ : ByteArray) a2_0 a2_1 a2_2 a2_3 a2_4 a2_5).bind fun t120 => (some t120)) else (some false)))))) = some r := H
        have A16 := Aside0.mk A160
        clear A160
        replace H := Option.bind_eq_some_iff.mp H
        obtain ⟨t115, A170, H⟩ := H
        replace H : ((impl_Valid.f t115 a2_0 a2_1 a2_2 a2_3 a2_4 a2_5).bind fun t116 => ((spec_Low.f a0).bind fun t117 => (if a1 ≥ t117 then ((spec_High.f a0).bind fun t118 => (if (t116 == (decide (a1 ≤ t118))) = true then ((impl_Valid.f (⟨#[48, 32, 48, 32, 49, 32, 49, 32, 48]⟩ : ByteArray) a2_0 a2_1 a2_2 a2_3 a2_4 a2_5).bind fun t119 => (some t119)) else (some false))) else (if (t116 == false) = true then ((impl_Valid.f (⟨#[48, 32, 48, 32, 49, 32, 49, 32, 48]⟩ : ByteArray) a2_0 a2_1 a2_2 a2_3 a2_4 a2_5).bind fun t120 => (some t120)) else (some false))))) = some r := H
        have A17 := Aside0.mk A170
        clear A170
        replace H := Option.bind_eq_some_iff.mp H
        obtain ⟨t116, A180, H⟩ := H
        replace H : ((spec_Low.f a0).bind fun t117 => (if a1 ≥ t117 then ((spec_High.f a0).bind fun t118 => (if (t116 == (decide (a1 ≤ t118))) = true then ((impl_Valid.f (⟨#[48, 32, 48, 32, 49, 32, 49, 32, 48]⟩ : ByteArray) a2_0 a2_1 a2_2 a2_3 a2_4 a2_5).bind fun t119 => (some t119)) else (some false))) else (if (t116 == false) = true then ((impl_Valid.f (⟨#[48, 32, 48, 32, 49, 32, 49, 32, 48]⟩ : ByteArray) a2_0 a2_1 a2_2 a2_3 a2_4 a2_5).bind fun t120 => (some t120)) else (some false)))) = some r := H
        have A18 := Aside0.mk A180
        clear A180
        replace H := Option.bind_eq_some_iff.mp H
        obtain ⟨t117, A190, H⟩ := H
        replace H : (if a1 ≥ t117 then ((spec_High.f a0).bind fun t118 => (if (t116 == (decide (a1 ≤ t118))) = true then ((impl_Valid.f (⟨#[48, 32, 48, 32, 49, 32, 49, 32, 48]⟩ : ByteArray) a2_0 a2_1 a2_2 a2_3 a2_4 a2_5).bind fun t119 => (some t119)) else (some false))) else (if (t116 == false) = true then ((impl_Valid.f (⟨#[48, 32, 48, 32, 49, 32, 49, 32, 48]⟩ : ByteArray) a2_0 a2_1 a2_2 a2_3 a2_4 a2_5).bind fun t120 => (some t120)) else (some false))) = some r := H
        have A19 := Aside0.mk A190
        clear A190
        by_cases c20 : a1 ≥ t117
        · rw [if_pos c20] at H
          have c20b0 : decide (t117 ≤ a1) = true := decide_eq_true c20
          clear c20
          replace H := Option.bind_eq_some_iff.mp H
          obtain ⟨t118, A210, H⟩ := H
          replace H : (if (t116 == (decide (a1 ≤ t118))) = true then ((impl_Valid.f (⟨#[48, 32, 48, 32, 49, 32, 49, 32, 48]⟩ : ByteArray) a2_0 a2_1 a2_2 a2_3 a2_4 a2_5).bind fun t119 => (some t119)) else (some false)) = some r := H
          have A21 := Aside0.mk A210
          clear A210
          by_cases c22 : (t116 == (decide (a1 ≤ t118))) = true
          · rw [if_pos c22] at H
            have c22b0 : (t116 == (decide (a1 ≤ t118))) = true := c22
            (try (have c22b1 : decide (t116 = (decide (a1 ≤ t118))) = true := by simpa using c22))
            (try (have c22b2 : (t116 == (decide (a1 ≤ t118))) = true := by simpa using c22))
            clear c22
            replace H := Option.bind_eq_some_iff.mp H
            obtain ⟨t119, A230, H⟩ := H
            replace H : (some t119) = some r := H
            have A23 := Aside0.mk A230
            clear A230
            obtain rfl := Option.some.inj H
            try go_wp2
            have n0_ := Aside0.mk (blk_drew BK106.out)
            have n1_ := Aside0.mk (below_drew1 HB.out)
            clear BK106
            clear HB
            have BK106 := n0_
            have HB := n1_
            clear n0_ n1_
            refine start_ (n := 22) (S := fun w' => w'.cell? ⟨gb106, 0, none⟩ = some (.int .i64 a2_0) ∧ w'.cell? ⟨gb106, 1, none⟩ = some (.int .i64 a2_1) ∧ w'.cell? ⟨gb106, 2, none⟩ = some (.int .i64 a2_2) ∧ w'.cell? ⟨gb106, 3, none⟩ = some (.int .i64 a2_3) ∧ w'.cell? ⟨gb106, 4, none⟩ = some (.int .i64 a2_4) ∧ w'.cell? ⟨gb106, 5, none⟩ = some (.int .i64 a2_5)) (ds := []) #[false, false, false, false, false, false, false, false, false, false, false, false, false, false, false, false, false, false, false, false, false, false] (by kernel_rfl) rfl rfl ⟨(blk_cell BK106.out 0).trans rfl, (blk_cell BK106.out 1).trans rfl, (blk_cell BK106.out 2).trans rfl, (blk_cell BK106.out 3).trans rfl, (blk_cell BK106.out 4).trans rfl, (blk_cell BK106.out 5).trans rfl⟩ (fun hHeld => ?_); refine with_tabW laws_FnBounds.tab3 laws_FnBounds.bits3 (fun HT_ HW_ => ?_)
            generalize wc.drew = w24 at BK106 HB hHeld ⊢
            refine pure_ (i := 0) (N := some 27) (v := ?_) (a' := ?_) #[true, false, false, false, false, false, false, false, false, false, false, false, false, false, false, false, false, false, false, false, false, false] rfl rfl (any_of HT_.out (by kernel_rfl)) (fun _ _ _ h => h) (Or.inl ⟨by rfl, ?_⟩) ?_ ?_
            rotate_left
            · intro w'
              go_simp
              with_reducible rfl
            rotate_left
            · simp only [Act.put, List.setIfInBounds_toArray, List.set_cons_zero, List.set_cons_succ, i64_w, i32_w]
              rfl
            refine pure_ (i := 1) (N := some 28) (v := ?_) (a' := ?_) #[true, true, false, false, false, false, false, false, false, false, false, false, false, false, false, false, false, false, false, false, false, false] rfl rfl (any_of HT_.out (by kernel_rfl)) (fun _ _ _ h => h) (Or.inl ⟨by rfl, ?_⟩) ?_ ?_
            rotate_left
            · intro w'
              go_simp
              with_reducible rfl
            rotate_left
            · simp only [Act.put, List.setIfInBounds_toArray, List.set_cons_zero, List.set_cons_succ, i64_w, i32_w]
              rfl
            refine pure_ (i := 6) (N := some 33) (v := ?_) (a' := ?_) #[true, true, false, false, false, false, true, false, false, false, false, false, false, false, false, false, false, false, false, false, false, false] rfl rfl (any_of HT_.out (by kernel_rfl)) (fun _ _ _ h => h) (Or.inl ⟨by rfl, ?_⟩) ?_ ?_
            rotate_left
            · intro w'
              go_simp
              with_reducible rfl
            rotate_left
            · simp only [Act.put, List.setIfInBounds_toArray, List.set_cons_zero, List.set_cons_succ, i64_w, i32_w]
              rfl
            refine pure_ (i := 7) (N := some 34) (v := ?_) (a' := ?_) #[true, true, false, false, false, false, true, true, false, false, false, false, false, false, false, false, false, false, false, false, false, false] rfl rfl (any_of HT_.out (by kernel_rfl)) (fun _ _ _ h => h) (Or.inl ⟨by rfl, ?_⟩) ?_ ?_
            rotate_left
            · intro w'
              go_simp
              with_reducible rfl
            rotate_left
            · simp only [Act.put, List.setIfInBounds_toArray, List.set_cons_zero, List.set_cons_succ, i64_w, i32_w]
              rfl
            refine take_ (i := 4) (N := some 31) (v := ?_) (a' := ?_) #[true, true, false, false, true, false, true, true, false, false, false, false, false, false, false, false, false, false, false, false, false, false] rfl rfl (take_ofW HT_.out HW_.out (by kernel_rfl)) (fun _ _ _ h => h) (Or.inl ⟨by rfl, ?_⟩) hHeld ?_ ?_
            rotate_left
            · rintro w' ⟨s0, s1, s2, s3, s4, s5⟩
              go_simp
              with_reducible rfl
            rotate_left
            · simp only [Act.put, List.setIfInBounds_toArray, List.set_cons_zero, List.set_cons_succ, i64_w, i32_w]
              rfl
            refine one_ (i := 2) (N := some 29) #[true, true, true, false, true, false, true, true, false, false, false, false, false, false, false, false, false, false, false, false, false, false] rfl rfl (one_of HT_.out (by kernel_rfl)) (by decide) (fun K hK => ?_)
            refine goes_ Tryz.func16 (by kernel_rfl) rfl #[.int .i64 a1] (by rfl) rfl rfl (by (try simp only [List.map_toArray, List.map_cons, List.map_nil]); first | done | rfl | (simp only [List.length_drop, List.length_take]; rfl)) ?_
            with_reducible refine (spec_Decimal.calls kj3 a1 t114 _ A16.out).mono ?_
            rintro e w' ⟨rfl, ⟨nd, rfl⟩⟩
            refine ⟨_, rfl, ?_⟩
            refine hK.out _ _ ⟨(blk_cell BK106.out 0).trans rfl, (blk_cell BK106.out 1).trans rfl, (blk_cell BK106.out 2).trans rfl, (blk_cell BK106.out 3).trans rfl, (blk_cell BK106.out 4).trans rfl, (blk_cell BK106.out 5).trans rfl⟩ (fun hHeld => ?_)
            clear hK K
            refine norm_ (a' := ?_) ?_ ?_
            rotate_left
            · show Act.put _ (some 29) _ = _
              simp only [Act.put, List.setIfInBounds_toArray, List.set_cons_zero, List.set_cons_succ, i64_w, i32_w]
              rfl
            refine one_ (i := 3) (N := some 30) #[true, true, true, true, true, false, true, true, false, false, false, false, false, false, false, false, false, false, false, false, false, false] rfl rfl (one_of HT_.out (by kernel_rfl)) (by decide) (fun K hK => ?_)
            refine goes_ Tryz.func15 (by kernel_rfl) rfl #[.int .i64 a0, .string t114] (by rfl) rfl rfl (by (try simp only [List.map_toArray, List.map_cons, List.map_nil]); first | done | rfl | (simp only [List.length_drop, List.length_take]; rfl)) ?_
            with_reducible refine (laws_stars.calls kj3 a0 t114 t115 _ A17.out).mono ?_
            rintro e w' ⟨rfl, ⟨nd, rfl⟩⟩
            refine ⟨_, rfl, ?_⟩
            refine hK.out _ _ ⟨(blk_cell BK106.out 0).trans rfl, (blk_cell BK106.out 1).trans rfl, (blk_cell BK106.out 2).trans rfl, (blk_cell BK106.out 3).trans rfl, (blk_cell BK106.out 4).trans rfl, (blk_cell BK106.out 5).trans rfl⟩ (fun hHeld => ?_)
            clear hK K
            refine norm_ (a' := ?_) ?_ ?_
            rotate_left
            · show Act.put _ (some 30) _ = _
              simp only [Act.put, List.setIfInBounds_toArray, List.set_cons_zero, List.set_cons_succ, i64_w, i32_w]
              rfl
            refine one_ (i := 5) (N := some 32) #[true, true, true, true, true, true, true, true, false, false, false, false, false, false, false, false, false, false, false, false, false, false] rfl rfl (one_of HT_.out (by kernel_rfl)) (by decide) (fun K hK => ?_)
            refine goes_ Tryz.func14 (by kernel_rfl) rfl #[.string t115, .agg #[.int .i64 a2_0, .int .i64 a2_1, .int .i64 a2_2, .int .i64 a2_3, .int .i64 a2_4, .int .i64 a2_5]] (by rfl) rfl rfl (by (try simp only [List.map_toArray, List.map_cons, List.map_nil]); first | done | rfl | (simp only [List.length_drop, List.length_take]; rfl)) ?_
            with_reducible refine (impl_Valid.calls t115 a2_0 a2_1 a2_2 a2_3 a2_4 a2_5 t116 _ A18.out).mono ?_
            rintro e w25 ⟨rfl, hb⟩
            refine ⟨_, rfl, ?_⟩
            have n0_ := Aside0.mk (blk_below (g := gb106) (o := .cells #[.int .i64 a2_0, .int .i64 a2_1, .int .i64 a2_2, .int .i64 a2_3, .int .i64 a2_4, .int .i64 a2_5] 23 (0, 0)) (by (with_reducible repeat (first | refine blk_drewN ?_ _ | refine blk_drew ?_ | refine blk_alloc ?_ _)); exact BK106.out) hb)
            have n1_ := Aside0.mk (below_step (by repeat (first | (with_reducible first | exact HB.out | apply below_alloc | apply pw_below_drewN | apply below_drew1 | refine below_set ?_ GE106.out) | exact HB.out)) hb)
            clear BK106
            clear HB
            have BK106 := n0_
            have HB := n1_
            clear n0_ n1_
            (try clear hb)
            (try clear hb2)
            (try clear hk)
            (try clear hi)
            refine hK.out _ _ ⟨(blk_cell BK106.out 0).trans rfl, (blk_cell BK106.out 1).trans rfl, (blk_cell BK106.out 2).trans rfl, (blk_cell BK106.out 3).trans rfl, (blk_cell BK106.out 4).trans rfl, (blk_cell BK106.out 5).trans rfl⟩ (fun hHeld => ?_)
            clear hK K
            refine norm_ (a' := ?_) ?_ ?_
            rotate_left
            · show Act.put _ (some 32) _ = _
              simp only [Act.put, List.setIfInBounds_toArray, List.set_cons_zero, List.set_cons_succ, i64_w, i32_w]
              rfl
            refine one_ (i := 8) (N := some 35) #[true, true, true, true, true, true, true, true, true, false, false, false, false, false, false, false, false, false, false, false, false, false] rfl rfl (one_of HT_.out (by kernel_rfl)) (by decide) (fun K hK => ?_)
            refine goes_ Tryz.func17 (by kernel_rfl) rfl #[.int .i64 a0] (by rfl) rfl rfl (by (try simp only [List.map_toArray, List.map_cons, List.map_nil]); first | done | rfl | (simp only [List.length_drop, List.length_take]; rfl)) ?_
            with_reducible refine (spec_Low.calls a0 t117 _ A19.out).mono ?_
            rintro e w' ⟨rfl, ⟨nd, rfl⟩⟩
            refine ⟨_, rfl, ?_⟩
            refine hK.out _ _ ⟨(blk_cell BK106.out 0).trans rfl, (blk_cell BK106.out 1).trans rfl, (blk_cell BK106.out 2).trans rfl, (blk_cell BK106.out 3).trans rfl, (blk_cell BK106.out 4).trans rfl, (blk_cell BK106.out 5).trans rfl⟩ (fun hHeld => ?_)
            clear hK K
            refine norm_ (a' := ?_) ?_ ?_
            rotate_left
            · show Act.put _ (some 35) _ = _
              simp only [Act.put, List.setIfInBounds_toArray, List.set_cons_zero, List.set_cons_succ, i64_w, i32_w]
              rfl
            refine pure_ (i := 9) (N := some 36) (v := ?_) (a' := ?_) #[true, true, true, true, true, true, true, true, true, true, false, false, false, false, false, false, false, false, false, false, false, false] rfl rfl (any_of HT_.out (by kernel_rfl)) (fun _ _ _ h => h) (Or.inl ⟨by rfl, ?_⟩) ?_ ?_
            rotate_left
            · intro w'
              go_simp
              with_reducible rfl
            rotate_left
            · simp only [Act.put, List.setIfInBounds_toArray, List.set_cons_zero, List.set_cons_succ, i64_w, i32_w]
              rfl
            refine pure_ (i := 10) (N := some 37) (v := ?_) (a' := ?_) #[true, true, true, true, true, true, true, true, true, true, true, false, false, false, false, false, false, false, false, false, false, false] rfl rfl (any_of HT_.out (by kernel_rfl)) (fun _ _ _ h => h) (Or.inl ⟨by rfl, ?_⟩) ?_ ?_
            rotate_left
            · intro w'
              go_simp
              with_reducible rfl
            rotate_left
            · simp only [Act.put, List.setIfInBounds_toArray, List.set_cons_zero, List.set_cons_succ, i64_w, i32_w]
              rfl
            refine pure_ (i := 11) (N := some 38) (v := ?_) (a' := ?_) #[true, true, true, true, true, true, true, true, true, true, true, true, false, false, false, false, false, false, false, false, false, false] rfl rfl (any_of HT_.out (by kernel_rfl)) (fun _ _ _ h => h) (Or.inl ⟨by rfl, ?_⟩) ?_ ?_
            rotate_left
            · intro w'
              go_simp
              with_reducible rfl
            rotate_left
            · simp only [Act.put, List.setIfInBounds_toArray, List.set_cons_zero, List.set_cons_succ, i64_w, i32_w]
              rfl
            refine pure_ (i := 12) (N := some 39) (v := ?_) (a' := ?_) #[true, true, true, true, true, true, true, true, true, true, true, true, true, false, false, false, false, false, false, false, false, false] rfl rfl (any_of HT_.out (by kernel_rfl)) (fun _ _ _ h => h) (Or.inl ⟨by rfl, ?_⟩) ?_ ?_
            rotate_left
            · intro w'
              go_simp
              with_reducible rfl
            rotate_left
            · simp only [Act.put, List.setIfInBounds_toArray, List.set_cons_zero, List.set_cons_succ, i64_w, i32_w]
              rfl
            refine one_ (i := 13) (N := some 40) #[true, true, true, true, true, true, true, true, true, true, true, true, true, true, false, false, false, false, false, false, false, false] rfl rfl (one_of HT_.out (by kernel_rfl)) (by decide) (fun K hK => ?_)
            refine goes_ Tryz.func18 (by kernel_rfl) rfl #[.int .i64 a0] (by rfl) rfl rfl (by (try simp only [List.map_toArray, List.map_cons, List.map_nil]); first | done | rfl | (simp only [List.length_drop, List.length_take]; rfl)) ?_
            with_reducible refine (spec_High.calls a0 t118 _ A21.out).mono ?_
            rintro e w' ⟨rfl, ⟨nd, rfl⟩⟩
            refine ⟨_, rfl, ?_⟩
            refine hK.out _ _ ⟨(blk_cell BK106.out 0).trans rfl, (blk_cell BK106.out 1).trans rfl, (blk_cell BK106.out 2).trans rfl, (blk_cell BK106.out 3).trans rfl, (blk_cell BK106.out 4).trans rfl, (blk_cell BK106.out 5).trans rfl⟩ (fun hHeld => ?_)
            clear hK K
            refine norm_ (a' := ?_) ?_ ?_
            rotate_left
            · show Act.put _ (some 40) _ = _
              simp only [Act.put, List.setIfInBounds_toArray, List.set_cons_zero, List.set_cons_succ, i64_w, i32_w]
              rfl
            refine pure_ (i := 14) (N := some 41) (v := ?_) (a' := ?_) #[true, true, true, true, true, true, true, true, true, true, true, true, true, true, true, false, false, false, false, false, false, false] rfl rfl (any_of HT_.out (by kernel_rfl)) (fun _ _ _ h => h) (Or.inl ⟨by rfl, ?_⟩) ?_ ?_
            rotate_left
            · intro w'
              go_simp
              with_reducible rfl
            rotate_left
            · simp only [Act.put, List.setIfInBounds_toArray, List.set_cons_zero, List.set_cons_succ, i64_w, i32_w]
              rfl
            refine pure_ (i := 15) (N := some 42) (v := ?_) (a' := ?_) #[true, true, true, true, true, true, true, true, true, true, true, true, true, true, true, true, false, false, false, false, false, false] rfl rfl (any_of HT_.out (by kernel_rfl)) (fun _ _ _ h => h) (Or.inl ⟨by rfl, ?_⟩) ?_ ?_
            rotate_left
            · intro w'
              go_simp
              with_reducible rfl
            rotate_left
            · simp only [Act.put, List.setIfInBounds_toArray, List.set_cons_zero, List.set_cons_succ, i64_w, i32_w]
              rfl
            refine pure_ (i := 16) (N := some 43) (v := ?_) (a' := ?_) #[true, true, true, true, true, true, true, true, true, true, true, true, true, true, true, true, true, false, false, false, false, false] rfl rfl (any_of HT_.out (by kernel_rfl)) (fun _ _ _ h => h) (Or.inl ⟨by rfl, ?_⟩) ?_ ?_
            rotate_left
            · intro w'
              go_simp
              with_reducible rfl
            rotate_left
            · simp only [Act.put, List.setIfInBounds_toArray, List.set_cons_zero, List.set_cons_succ, i64_w, i32_w]
              rfl
            refine pure_ (i := 17) (N := some 44) (v := ?_) (a' := ?_) #[true, true, true, true, true, true, true, true, true, true, true, true, true, true, true, true, true, true, false, false, false, false] rfl rfl (any_of HT_.out (by kernel_rfl)) (fun _ _ _ h => h) (Or.inl ⟨by rfl, ?_⟩) ?_ ?_
            rotate_left
            · intro w'
              go_simp
              with_reducible rfl
            rotate_left
            · simp only [Act.put, List.setIfInBounds_toArray, List.set_cons_zero, List.set_cons_succ, i64_w, i32_w]
              rfl
            refine take_ (i := 18) (N := some 45) (v := ?_) (a' := ?_) #[true, true, true, true, true, true, true, true, true, true, true, true, true, true, true, true, true, true, true, false, false, false] rfl rfl (take_ofW HT_.out HW_.out (by kernel_rfl)) (fun _ _ _ h => h) (Or.inl ⟨by rfl, ?_⟩) hHeld ?_ ?_
            rotate_left
            · rintro w' ⟨s0, s1, s2, s3, s4, s5⟩
              go_simp
              with_reducible rfl
            rotate_left
            · simp only [Act.put, List.setIfInBounds_toArray, List.set_cons_zero, List.set_cons_succ, i64_w, i32_w]
              rfl
            refine one_ (i := 19) (N := some 46) #[true, true, true, true, true, true, true, true, true, true, true, true, true, true, true, true, true, true, true, true, false, false] rfl rfl (one_of HT_.out (by kernel_rfl)) (by decide) (fun K hK => ?_)
            refine goes_ Tryz.func14 (by kernel_rfl) rfl #[.string (⟨#[48, 32, 48, 32, 49, 32, 49, 32, 48]⟩ : ByteArray), .agg #[.int .i64 a2_0, .int .i64 a2_1, .int .i64 a2_2, .int .i64 a2_3, .int .i64 a2_4, .int .i64 a2_5]] (by rfl) rfl rfl (by (try simp only [List.map_toArray, List.map_cons, List.map_nil]); first | done | rfl | (simp only [List.length_drop, List.length_take]; rfl)) ?_
            with_reducible refine (impl_Valid.calls (⟨#[48, 32, 48, 32, 49, 32, 49, 32, 48]⟩ : ByteArray) a2_0 a2_1 a2_2 a2_3 a2_4 a2_5 t119 _ A23.out).mono ?_
            rintro e w26 ⟨rfl, hb⟩
            refine ⟨_, rfl, ?_⟩
            have n0_ := Aside0.mk (blk_below (g := gb106) (o := .cells #[.int .i64 a2_0, .int .i64 a2_1, .int .i64 a2_2, .int .i64 a2_3, .int .i64 a2_4, .int .i64 a2_5] 23 (0, 0)) (by (with_reducible repeat (first | refine blk_drewN ?_ _ | refine blk_drew ?_ | refine blk_alloc ?_ _)); exact BK106.out) hb)
            have n1_ := Aside0.mk (below_step (by repeat (first | (with_reducible first | exact HB.out | apply below_alloc | apply pw_below_drewN | apply below_drew1 | refine below_set ?_ GE106.out) | exact HB.out)) hb)
            clear BK106
            clear HB
            have BK106 := n0_
            have HB := n1_
            clear n0_ n1_
            (try clear hb)
            (try clear hb2)
            (try clear hk)
            (try clear hi)
            refine hK.out _ _ ⟨(blk_cell BK106.out 0).trans rfl, (blk_cell BK106.out 1).trans rfl, (blk_cell BK106.out 2).trans rfl, (blk_cell BK106.out 3).trans rfl, (blk_cell BK106.out 4).trans rfl, (blk_cell BK106.out 5).trans rfl⟩ (fun hHeld => ?_)
            clear hK K
            refine norm_ (a' := ?_) ?_ ?_
            rotate_left
            · show Act.put _ (some 46) _ = _
              simp only [Act.put, List.setIfInBounds_toArray, List.set_cons_zero, List.set_cons_succ, i64_w, i32_w]
              rfl
            refine pure_ (i := 20) (N := some 47) (v := ?_) (a' := ?_) #[true, true, true, true, true, true, true, true, true, true, true, true, true, true, true, true, true, true, true, true, true, false] rfl rfl (any_of HT_.out (by kernel_rfl)) (fun _ _ _ h => h) (Or.inl ⟨by rfl, ?_⟩) ?_ ?_
            rotate_left
            · intro w'
              go_simp
              with_reducible rfl
            rotate_left
            · simp only [Act.put, List.setIfInBounds_toArray, List.set_cons_zero, List.set_cons_succ, i64_w, i32_w]
              rfl
            refine pure_ (i := 21) (N := some 6) (v := ?_) (a' := ?_) #[true, true, true, true, true, true, true, true, true, true, true, true, true, true, true, true, true, true, true, true, true, true] rfl rfl (any_of HT_.out (by kernel_rfl)) (fun _ _ _ h => h) (Or.inl ⟨by rfl, ?_⟩) ?_ ?_
            rotate_left
            · intro w'
              go_simp
              with_reducible rfl
            rotate_left
            · simp only [Act.put, List.setIfInBounds_toArray, List.set_cons_zero, List.set_cons_succ, i64_w, i32_w]
              rfl
            refine done_ (done_of HT_.out (by kernel_rfl)) ?_
            try go_wp2
            go_ret
            exact ⟨by first | rfl | (simp [errW_none, errW_some] <;> rfl) | (simp [*, errW_none, errW_some] <;> rfl), by repeat (first | (with_reducible first | exact HB.out | apply below_alloc | apply pw_below_drewN | apply below_drew1 | refine below_set ?_ GE106.out) | exact HB.out)⟩
          · rw [if_neg c22] at H
            have c22b0 : (t116 == (decide (a1 ≤ t118))) = false := by simpa using c22
            (try (have c22b1 : decide (t116 = (decide (a1 ≤ t118))) = false := by simpa using c22))
            (try (have c22b2 : (t116 == (decide (a1 ≤ t118))) = false := by simpa using c22))
            (try (have c22b3 : ¬ (t116 = (decide (a1 ≤ t118))) := by simpa using c22))
            clear c22
            obtain rfl := Option.some.inj H
            try go_wp2
            have n0_ := Aside0.mk (blk_drew BK106.out)
            have n1_ := Aside0.mk (below_drew1 HB.out)
            clear BK106
            clear HB
            have BK106 := n0_
            have HB := n1_
            clear n0_ n1_
            refine start_ (n := 22) (S := fun w' => w'.cell? ⟨gb106, 0, none⟩ = some (.int .i64 a2_0) ∧ w'.cell? ⟨gb106, 1, none⟩ = some (.int .i64 a2_1) ∧ w'.cell? ⟨gb106, 2, none⟩ = some (.int .i64 a2_2) ∧ w'.cell? ⟨gb106, 3, none⟩ = some (.int .i64 a2_3) ∧ w'.cell? ⟨gb106, 4, none⟩ = some (.int .i64 a2_4) ∧ w'.cell? ⟨gb106, 5, none⟩ = some (.int .i64 a2_5)) (ds := []) #[false, false, false, false, false, false, false, false, false, false, false, false, false, false, false, false, false, false, false, false, false, false] (by kernel_rfl) rfl rfl ⟨(blk_cell BK106.out 0).trans rfl, (blk_cell BK106.out 1).trans rfl, (blk_cell BK106.out 2).trans rfl, (blk_cell BK106.out 3).trans rfl, (blk_cell BK106.out 4).trans rfl, (blk_cell BK106.out 5).trans rfl⟩ (fun hHeld => ?_); refine with_tabW laws_FnBounds.tab3 laws_FnBounds.bits3 (fun HT_ HW_ => ?_)
            generalize wc.drew = w27 at BK106 HB hHeld ⊢
            refine pure_ (i := 0) (N := some 27) (v := ?_) (a' := ?_) #[true, false, false, false, false, false, false, false, false, false, false, false, false, false, false, false, false, false, false, false, false, false] rfl rfl (any_of HT_.out (by kernel_rfl)) (fun _ _ _ h => h) (Or.inl ⟨by rfl, ?_⟩) ?_ ?_
            rotate_left
            · intro w'
              go_simp
              with_reducible rfl
            rotate_left
            · simp only [Act.put, List.setIfInBounds_toArray, List.set_cons_zero, List.set_cons_succ, i64_w, i32_w]
              rfl
            refine pure_ (i := 1) (N := some 28) (v := ?_) (a' := ?_) #[true, true, false, false, false, false, false, false, false, false, false, false, false, false, false, false, false, false, false, false, false, false] rfl rfl (any_of HT_.out (by kernel_rfl)) (fun _ _ _ h => h) (Or.inl ⟨by rfl, ?_⟩) ?_ ?_
            rotate_left
            · intro w'
              go_simp
              with_reducible rfl
            rotate_left
            · simp only [Act.put, List.setIfInBounds_toArray, List.set_cons_zero, List.set_cons_succ, i64_w, i32_w]
              rfl
            refine pure_ (i := 6) (N := some 33) (v := ?_) (a' := ?_) #[true, true, false, false, false, false, true, false, false, false, false, false, false, false, false, false, false, false, false, false, false, false] rfl rfl (any_of HT_.out (by kernel_rfl)) (fun _ _ _ h => h) (Or.inl ⟨by rfl, ?_⟩) ?_ ?_
            rotate_left
            · intro w'
              go_simp
              with_reducible rfl
            rotate_left
            · simp only [Act.put, List.setIfInBounds_toArray, List.set_cons_zero, List.set_cons_succ, i64_w, i32_w]
              rfl
            refine pure_ (i := 7) (N := some 34) (v := ?_) (a' := ?_) #[true, true, false, false, false, false, true, true, false, false, false, false, false, false, false, false, false, false, false, false, false, false] rfl rfl (any_of HT_.out (by kernel_rfl)) (fun _ _ _ h => h) (Or.inl ⟨by rfl, ?_⟩) ?_ ?_
            rotate_left
            · intro w'
              go_simp
              with_reducible rfl
            rotate_left
            · simp only [Act.put, List.setIfInBounds_toArray, List.set_cons_zero, List.set_cons_succ, i64_w, i32_w]
              rfl
            refine take_ (i := 4) (N := some 31) (v := ?_) (a' := ?_) #[true, true, false, false, true, false, true, true, false, false, false, false, false, false, false, false, false, false, false, false, false, false] rfl rfl (take_ofW HT_.out HW_.out (by kernel_rfl)) (fun _ _ _ h => h) (Or.inl ⟨by rfl, ?_⟩) hHeld ?_ ?_
            rotate_left
            · rintro w' ⟨s0, s1, s2, s3, s4, s5⟩
              go_simp
              with_reducible rfl
            rotate_left
            · simp only [Act.put, List.setIfInBounds_toArray, List.set_cons_zero, List.set_cons_succ, i64_w, i32_w]
              rfl
            refine one_ (i := 2) (N := some 29) #[true, true, true, false, true, false, true, true, false, false, false, false, false, false, false, false, false, false, false, false, false, false] rfl rfl (one_of HT_.out (by kernel_rfl)) (by decide) (fun K hK => ?_)
            refine goes_ Tryz.func16 (by kernel_rfl) rfl #[.int .i64 a1] (by rfl) rfl rfl (by (try simp only [List.map_toArray, List.map_cons, List.map_nil]); first | done | rfl | (simp only [List.length_drop, List.length_take]; rfl)) ?_
            with_reducible refine (spec_Decimal.calls kj3 a1 t114 _ A16.out).mono ?_
            rintro e w' ⟨rfl, ⟨nd, rfl⟩⟩
            refine ⟨_, rfl, ?_⟩
            refine hK.out _ _ ⟨(blk_cell BK106.out 0).trans rfl, (blk_cell BK106.out 1).trans rfl, (blk_cell BK106.out 2).trans rfl, (blk_cell BK106.out 3).trans rfl, (blk_cell BK106.out 4).trans rfl, (blk_cell BK106.out 5).trans rfl⟩ (fun hHeld => ?_)
            clear hK K
            refine norm_ (a' := ?_) ?_ ?_
            rotate_left
            · show Act.put _ (some 29) _ = _
              simp only [Act.put, List.setIfInBounds_toArray, List.set_cons_zero, List.set_cons_succ, i64_w, i32_w]
              rfl
            refine one_ (i := 3) (N := some 30) #[true, true, true, true, true, false, true, true, false, false, false, false, false, false, false, false, false, false, false, false, false, false] rfl rfl (one_of HT_.out (by kernel_rfl)) (by decide) (fun K hK => ?_)
            refine goes_ Tryz.func15 (by kernel_rfl) rfl #[.int .i64 a0, .string t114] (by rfl) rfl rfl (by (try simp only [List.map_toArray, List.map_cons, List.map_nil]); first | done | rfl | (simp only [List.length_drop, List.length_take]; rfl)) ?_
            with_reducible refine (laws_stars.calls kj3 a0 t114 t115 _ A17.out).mono ?_
            rintro e w' ⟨rfl, ⟨nd, rfl⟩⟩
            refine ⟨_, rfl, ?_⟩
            refine hK.out _ _ ⟨(blk_cell BK106.out 0).trans rfl, (blk_cell BK106.out 1).trans rfl, (blk_cell BK106.out 2).trans rfl, (blk_cell BK106.out 3).trans rfl, (blk_cell BK106.out 4).trans rfl, (blk_cell BK106.out 5).trans rfl⟩ (fun hHeld => ?_)
            clear hK K
            refine norm_ (a' := ?_) ?_ ?_
            rotate_left
            · show Act.put _ (some 30) _ = _
              simp only [Act.put, List.setIfInBounds_toArray, List.set_cons_zero, List.set_cons_succ, i64_w, i32_w]
              rfl
            refine one_ (i := 5) (N := some 32) #[true, true, true, true, true, true, true, true, false, false, false, false, false, false, false, false, false, false, false, false, false, false] rfl rfl (one_of HT_.out (by kernel_rfl)) (by decide) (fun K hK => ?_)
            refine goes_ Tryz.func14 (by kernel_rfl) rfl #[.string t115, .agg #[.int .i64 a2_0, .int .i64 a2_1, .int .i64 a2_2, .int .i64 a2_3, .int .i64 a2_4, .int .i64 a2_5]] (by rfl) rfl rfl (by (try simp only [List.map_toArray, List.map_cons, List.map_nil]); first | done | rfl | (simp only [List.length_drop, List.length_take]; rfl)) ?_
            with_reducible refine (impl_Valid.calls t115 a2_0 a2_1 a2_2 a2_3 a2_4 a2_5 t116 _ A18.out).mono ?_
            rintro e w28 ⟨rfl, hb⟩
            refine ⟨_, rfl, ?_⟩
            have n0_ := Aside0.mk (blk_below (g := gb106) (o := .cells #[.int .i64 a2_0, .int .i64 a2_1, .int .i64 a2_2, .int .i64 a2_3, .int .i64 a2_4, .int .i64 a2_5] 23 (0, 0)) (by (with_reducible repeat (first | refine blk_drewN ?_ _ | refine blk_drew ?_ | refine blk_alloc ?_ _)); exact BK106.out) hb)
            have n1_ := Aside0.mk (below_step (by repeat (first | (with_reducible first | exact HB.out | apply below_alloc | apply pw_below_drewN | apply below_drew1 | refine below_set ?_ GE106.out) | exact HB.out)) hb)
            clear BK106
            clear HB
            have BK106 := n0_
            have HB := n1_
            clear n0_ n1_
            (try clear hb)
            (try clear hb2)
            (try clear hk)
            (try clear hi)
            refine hK.out _ _ ⟨(blk_cell BK106.out 0).trans rfl, (blk_cell BK106.out 1).trans rfl, (blk_cell BK106.out 2).trans rfl, (blk_cell BK106.out 3).trans rfl, (blk_cell BK106.out 4).trans rfl, (blk_cell BK106.out 5).trans rfl⟩ (fun hHeld => ?_)
            clear hK K
            refine norm_ (a' := ?_) ?_ ?_
            rotate_left
            · show Act.put _ (some 32) _ = _
              simp only [Act.put, List.setIfInBounds_toArray, List.set_cons_zero, List.set_cons_succ, i64_w, i32_w]
              rfl
            refine one_ (i := 8) (N := some 35) #[true, true, true, true, true, true, true, true, true, false, false, false, false, false, false, false, false, false, false, false, false, false] rfl rfl (one_of HT_.out (by kernel_rfl)) (by decide) (fun K hK => ?_)
            refine goes_ Tryz.func17 (by kernel_rfl) rfl #[.int .i64 a0] (by rfl) rfl rfl (by (try simp only [List.map_toArray, List.map_cons, List.map_nil]); first | done | rfl | (simp only [List.length_drop, List.length_take]; rfl)) ?_
            with_reducible refine (spec_Low.calls a0 t117 _ A19.out).mono ?_
            rintro e w' ⟨rfl, ⟨nd, rfl⟩⟩
            refine ⟨_, rfl, ?_⟩
            refine hK.out _ _ ⟨(blk_cell BK106.out 0).trans rfl, (blk_cell BK106.out 1).trans rfl, (blk_cell BK106.out 2).trans rfl, (blk_cell BK106.out 3).trans rfl, (blk_cell BK106.out 4).trans rfl, (blk_cell BK106.out 5).trans rfl⟩ (fun hHeld => ?_)
            clear hK K
            refine norm_ (a' := ?_) ?_ ?_
            rotate_left
            · show Act.put _ (some 35) _ = _
              simp only [Act.put, List.setIfInBounds_toArray, List.set_cons_zero, List.set_cons_succ, i64_w, i32_w]
              rfl
            refine pure_ (i := 9) (N := some 36) (v := ?_) (a' := ?_) #[true, true, true, true, true, true, true, true, true, true, false, false, false, false, false, false, false, false, false, false, false, false] rfl rfl (any_of HT_.out (by kernel_rfl)) (fun _ _ _ h => h) (Or.inl ⟨by rfl, ?_⟩) ?_ ?_
            rotate_left
            · intro w'
              go_simp
              with_reducible rfl
            rotate_left
            · simp only [Act.put, List.setIfInBounds_toArray, List.set_cons_zero, List.set_cons_succ, i64_w, i32_w]
              rfl
            refine pure_ (i := 10) (N := some 37) (v := ?_) (a' := ?_) #[true, true, true, true, true, true, true, true, true, true, true, false, false, false, false, false, false, false, false, false, false, false] rfl rfl (any_of HT_.out (by kernel_rfl)) (fun _ _ _ h => h) (Or.inl ⟨by rfl, ?_⟩) ?_ ?_
            rotate_left
            · intro w'
              go_simp
              with_reducible rfl
            rotate_left
            · simp only [Act.put, List.setIfInBounds_toArray, List.set_cons_zero, List.set_cons_succ, i64_w, i32_w]
              rfl
            refine pure_ (i := 11) (N := some 38) (v := ?_) (a' := ?_) #[true, true, true, true, true, true, true, true, true, true, true, true, false, false, false, false, false, false, false, false, false, false] rfl rfl (any_of HT_.out (by kernel_rfl)) (fun _ _ _ h => h) (Or.inl ⟨by rfl, ?_⟩) ?_ ?_
            rotate_left
            · intro w'
              go_simp
              with_reducible rfl
            rotate_left
            · simp only [Act.put, List.setIfInBounds_toArray, List.set_cons_zero, List.set_cons_succ, i64_w, i32_w]
              rfl
            refine pure_ (i := 12) (N := some 39) (v := ?_) (a' := ?_) #[true, true, true, true, true, true, true, true, true, true, true, true, true, false, false, false, false, false, false, false, false, false] rfl rfl (any_of HT_.out (by kernel_rfl)) (fun _ _ _ h => h) (Or.inl ⟨by rfl, ?_⟩) ?_ ?_
            rotate_left
            · intro w'
              go_simp
              with_reducible rfl
            rotate_left
            · simp only [Act.put, List.setIfInBounds_toArray, List.set_cons_zero, List.set_cons_succ, i64_w, i32_w]
              rfl
            refine one_ (i := 13) (N := some 40) #[true, true, true, true, true, true, true, true, true, true, true, true, true, true, false, false, false, false, false, false, false, false] rfl rfl (one_of HT_.out (by kernel_rfl)) (by decide) (fun K hK => ?_)
            refine goes_ Tryz.func18 (by kernel_rfl) rfl #[.int .i64 a0] (by rfl) rfl rfl (by (try simp only [List.map_toArray, List.map_cons, List.map_nil]); first | done | rfl | (simp only [List.length_drop, List.length_take]; rfl)) ?_
            with_reducible refine (spec_High.calls a0 t118 _ A21.out).mono ?_
            rintro e w' ⟨rfl, ⟨nd, rfl⟩⟩
            refine ⟨_, rfl, ?_⟩
            refine hK.out _ _ ⟨(blk_cell BK106.out 0).trans rfl, (blk_cell BK106.out 1).trans rfl, (blk_cell BK106.out 2).trans rfl, (blk_cell BK106.out 3).trans rfl, (blk_cell BK106.out 4).trans rfl, (blk_cell BK106.out 5).trans rfl⟩ (fun hHeld => ?_)
            clear hK K
            refine norm_ (a' := ?_) ?_ ?_
            rotate_left
            · show Act.put _ (some 40) _ = _
              simp only [Act.put, List.setIfInBounds_toArray, List.set_cons_zero, List.set_cons_succ, i64_w, i32_w]
              rfl
            refine pure_ (i := 14) (N := some 41) (v := ?_) (a' := ?_) #[true, true, true, true, true, true, true, true, true, true, true, true, true, true, true, false, false, false, false, false, false, false] rfl rfl (any_of HT_.out (by kernel_rfl)) (fun _ _ _ h => h) (Or.inl ⟨by rfl, ?_⟩) ?_ ?_
            rotate_left
            · intro w'
              go_simp
              with_reducible rfl
            rotate_left
            · simp only [Act.put, List.setIfInBounds_toArray, List.set_cons_zero, List.set_cons_succ, i64_w, i32_w]
              rfl
            refine pure_ (i := 15) (N := some 42) (v := ?_) (a' := ?_) #[true, true, true, true, true, true, true, true, true, true, true, true, true, true, true, true, false, false, false, false, false, false] rfl rfl (any_of HT_.out (by kernel_rfl)) (fun _ _ _ h => h) (Or.inl ⟨by rfl, ?_⟩) ?_ ?_
            rotate_left
            · intro w'
              go_simp
              with_reducible rfl
            rotate_left
            · simp only [Act.put, List.setIfInBounds_toArray, List.set_cons_zero, List.set_cons_succ, i64_w, i32_w]
              rfl
            refine pure_ (i := 16) (N := some 43) (v := ?_) (a' := ?_) #[true, true, true, true, true, true, true, true, true, true, true, true, true, true, true, true, true, false, false, false, false, false] rfl rfl (any_of HT_.out (by kernel_rfl)) (fun _ _ _ h => h) (Or.inl ⟨by rfl, ?_⟩) ?_ ?_
            rotate_left
            · intro w'
              go_simp
              with_reducible rfl
            rotate_left
            · simp only [Act.put, List.setIfInBounds_toArray, List.set_cons_zero, List.set_cons_succ, i64_w, i32_w]
              rfl
            refine pure_ (i := 17) (N := some 44) (v := ?_) (a' := ?_) #[true, true, true, true, true, true, true, true, true, true, true, true, true, true, true, true, true, true, false, false, false, false] rfl rfl (any_of HT_.out (by kernel_rfl)) (fun _ _ _ h => h) (Or.inl ⟨by rfl, ?_⟩) ?_ ?_
            rotate_left
            · intro w'
              go_simp
              with_reducible rfl
            rotate_left
            · simp only [Act.put, List.setIfInBounds_toArray, List.set_cons_zero, List.set_cons_succ, i64_w, i32_w]
              rfl
            refine pure_ (i := 18) (N := some 45) (v := undef) (a' := ?_) #[true, true, true, true, true, true, true, true, true, true, true, true, true, true, true, true, true, true, true, false, false, false] rfl rfl (any_of HT_.out (by kernel_rfl)) (fun _ _ _ h => h) (Or.inr ⟨by rfl, rfl⟩) ?_ ?_
            rotate_left
            · simp only [Act.put, List.setIfInBounds_toArray, List.set_cons_zero, List.set_cons_succ, i64_w, i32_w]
              rfl
            refine pure_ (i := 19) (N := some 46) (v := undef) (a' := ?_) #[true, true, true, true, true, true, true, true, true, true, true, true, true, true, true, true, true, true, true, true, false, false] rfl rfl (any_of HT_.out (by kernel_rfl)) (fun _ _ _ h => h) (Or.inr ⟨by rfl, rfl⟩) ?_ ?_
            rotate_left
            · simp only [Act.put, List.setIfInBounds_toArray, List.set_cons_zero, List.set_cons_succ, i64_w, i32_w]
              rfl
            refine pure_ (i := 20) (N := some 47) (v := ?_) (a' := ?_) #[true, true, true, true, true, true, true, true, true, true, true, true, true, true, true, true, true, true, true, true, true, false] rfl rfl (any_of HT_.out (by kernel_rfl)) (fun _ _ _ h => h) (Or.inl ⟨by rfl, ?_⟩) ?_ ?_
            rotate_left
            · intro w'
              go_simp
              with_reducible rfl
            rotate_left
            · simp only [Act.put, List.setIfInBounds_toArray, List.set_cons_zero, List.set_cons_succ, i64_w, i32_w]
              rfl
            refine pure_ (i := 21) (N := some 6) (v := ?_) (a' := ?_) #[true, true, true, true, true, true, true, true, true, true, true, true, true, true, true, true, true, true, true, true, true, true] rfl rfl (any_of HT_.out (by kernel_rfl)) (fun _ _ _ h => h) (Or.inl ⟨by rfl, ?_⟩) ?_ ?_
            rotate_left
            · intro w'
              go_simp
              with_reducible rfl
            rotate_left
            · simp only [Act.put, List.setIfInBounds_toArray, List.set_cons_zero, List.set_cons_succ, i64_w, i32_w]
              rfl
            refine done_ (done_of HT_.out (by kernel_rfl)) ?_
            try go_wp2
            go_ret
            exact ⟨by first | rfl | (simp [errW_none, errW_some] <;> rfl) | (simp [*, errW_none, errW_some] <;> rfl), by repeat (first | (with_reducible first | exact HB.out | apply below_alloc | apply pw_below_drewN | apply below_drew1 | refine below_set ?_ GE106.out) | exact HB.out)⟩
        · rw [if_neg c20] at H
          have c20b0 : decide (t117 ≤ a1) = false := decide_eq_false c20
          clear c20
          by_cases c29 : (t116 == false) = true
          · rw [if_pos c29] at H
            have c29b0 : (t116 == false) = true := c29
            (try (have c29b1 : decide (t116 = false) = true := by simpa using c29))
            (try (have c29b2 : (t116 == false) = true := by simpa using c29))
            clear c29
            replace H := Option.bind_eq_some_iff.mp H
            obtain ⟨t120, A300, H⟩ := H
            replace H : (some t120) = some r := H
            have A30 := Aside0.mk A300
            clear A300
            obtain rfl := Option.some.inj H
            try go_wp2
            have n0_ := Aside0.mk (blk_drew BK106.out)
            have n1_ := Aside0.mk (below_drew1 HB.out)
            clear BK106
            clear HB
            have BK106 := n0_
            have HB := n1_
            clear n0_ n1_
            refine start_ (n := 22) (S := fun w' => w'.cell? ⟨gb106, 0, none⟩ = some (.int .i64 a2_0) ∧ w'.cell? ⟨gb106, 1, none⟩ = some (.int .i64 a2_1) ∧ w'.cell? ⟨gb106, 2, none⟩ = some (.int .i64 a2_2) ∧ w'.cell? ⟨gb106, 3, none⟩ = some (.int .i64 a2_3) ∧ w'.cell? ⟨gb106, 4, none⟩ = some (.int .i64 a2_4) ∧ w'.cell? ⟨gb106, 5, none⟩ = some (.int .i64 a2_5)) (ds := []) #[false, false, false, false, false, false, false, false, false, false, false, false, false, false, false, false, false, false, false, false, false, false] (by kernel_rfl) rfl rfl ⟨(blk_cell BK106.out 0).trans rfl, (blk_cell BK106.out 1).trans rfl, (blk_cell BK106.out 2).trans rfl, (blk_cell BK106.out 3).trans rfl, (blk_cell BK106.out 4).trans rfl, (blk_cell BK106.out 5).trans rfl⟩ (fun hHeld => ?_); refine with_tabW laws_FnBounds.tab3 laws_FnBounds.bits3 (fun HT_ HW_ => ?_)
            generalize wc.drew = w31 at BK106 HB hHeld ⊢
            refine pure_ (i := 0) (N := some 27) (v := ?_) (a' := ?_) #[true, false, false, false, false, false, false, false, false, false, false, false, false, false, false, false, false, false, false, false, false, false] rfl rfl (any_of HT_.out (by kernel_rfl)) (fun _ _ _ h => h) (Or.inl ⟨by rfl, ?_⟩) ?_ ?_
            rotate_left
            · intro w'
              go_simp
              with_reducible rfl
            rotate_left
            · simp only [Act.put, List.setIfInBounds_toArray, List.set_cons_zero, List.set_cons_succ, i64_w, i32_w]
              rfl
            refine pure_ (i := 1) (N := some 28) (v := ?_) (a' := ?_) #[true, true, false, false, false, false, false, false, false, false, false, false, false, false, false, false, false, false, false, false, false, false] rfl rfl (any_of HT_.out (by kernel_rfl)) (fun _ _ _ h => h) (Or.inl ⟨by rfl, ?_⟩) ?_ ?_
            rotate_left
            · intro w'
              go_simp
              with_reducible rfl
            rotate_left
            · simp only [Act.put, List.setIfInBounds_toArray, List.set_cons_zero, List.set_cons_succ, i64_w, i32_w]
              rfl
            refine pure_ (i := 6) (N := some 33) (v := ?_) (a' := ?_) #[true, true, false, false, false, false, true, false, false, false, false, false, false, false, false, false, false, false, false, false, false, false] rfl rfl (any_of HT_.out (by kernel_rfl)) (fun _ _ _ h => h) (Or.inl ⟨by rfl, ?_⟩) ?_ ?_
            rotate_left
            · intro w'
              go_simp
              with_reducible rfl
            rotate_left
            · simp only [Act.put, List.setIfInBounds_toArray, List.set_cons_zero, List.set_cons_succ, i64_w, i32_w]
              rfl
            refine pure_ (i := 7) (N := some 34) (v := ?_) (a' := ?_) #[true, true, false, false, false, false, true, true, false, false, false, false, false, false, false, false, false, false, false, false, false, false] rfl rfl (any_of HT_.out (by kernel_rfl)) (fun _ _ _ h => h) (Or.inl ⟨by rfl, ?_⟩) ?_ ?_
            rotate_left
            · intro w'
              go_simp
              with_reducible rfl
            rotate_left
            · simp only [Act.put, List.setIfInBounds_toArray, List.set_cons_zero, List.set_cons_succ, i64_w, i32_w]
              rfl
            refine take_ (i := 4) (N := some 31) (v := ?_) (a' := ?_) #[true, true, false, false, true, false, true, true, false, false, false, false, false, false, false, false, false, false, false, false, false, false] rfl rfl (take_ofW HT_.out HW_.out (by kernel_rfl)) (fun _ _ _ h => h) (Or.inl ⟨by rfl, ?_⟩) hHeld ?_ ?_
            rotate_left
            · rintro w' ⟨s0, s1, s2, s3, s4, s5⟩
              go_simp
              with_reducible rfl
            rotate_left
            · simp only [Act.put, List.setIfInBounds_toArray, List.set_cons_zero, List.set_cons_succ, i64_w, i32_w]
              rfl
            refine one_ (i := 2) (N := some 29) #[true, true, true, false, true, false, true, true, false, false, false, false, false, false, false, false, false, false, false, false, false, false] rfl rfl (one_of HT_.out (by kernel_rfl)) (by decide) (fun K hK => ?_)
            refine goes_ Tryz.func16 (by kernel_rfl) rfl #[.int .i64 a1] (by rfl) rfl rfl (by (try simp only [List.map_toArray, List.map_cons, List.map_nil]); first | done | rfl | (simp only [List.length_drop, List.length_take]; rfl)) ?_
            with_reducible refine (spec_Decimal.calls kj3 a1 t114 _ A16.out).mono ?_
            rintro e w' ⟨rfl, ⟨nd, rfl⟩⟩
            refine ⟨_, rfl, ?_⟩
            refine hK.out _ _ ⟨(blk_cell BK106.out 0).trans rfl, (blk_cell BK106.out 1).trans rfl, (blk_cell BK106.out 2).trans rfl, (blk_cell BK106.out 3).trans rfl, (blk_cell BK106.out 4).trans rfl, (blk_cell BK106.out 5).trans rfl⟩ (fun hHeld => ?_)
            clear hK K
            refine norm_ (a' := ?_) ?_ ?_
            rotate_left
            · show Act.put _ (some 29) _ = _
              simp only [Act.put, List.setIfInBounds_toArray, List.set_cons_zero, List.set_cons_succ, i64_w, i32_w]
              rfl
            refine one_ (i := 3) (N := some 30) #[true, true, true, true, true, false, true, true, false, false, false, false, false, false, false, false, false, false, false, false, false, false] rfl rfl (one_of HT_.out (by kernel_rfl)) (by decide) (fun K hK => ?_)
            refine goes_ Tryz.func15 (by kernel_rfl) rfl #[.int .i64 a0, .string t114] (by rfl) rfl rfl (by (try simp only [List.map_toArray, List.map_cons, List.map_nil]); first | done | rfl | (simp only [List.length_drop, List.length_take]; rfl)) ?_
            with_reducible refine (laws_stars.calls kj3 a0 t114 t115 _ A17.out).mono ?_
            rintro e w' ⟨rfl, ⟨nd, rfl⟩⟩
            refine ⟨_, rfl, ?_⟩
            refine hK.out _ _ ⟨(blk_cell BK106.out 0).trans rfl, (blk_cell BK106.out 1).trans rfl, (blk_cell BK106.out 2).trans rfl, (blk_cell BK106.out 3).trans rfl, (blk_cell BK106.out 4).trans rfl, (blk_cell BK106.out 5).trans rfl⟩ (fun hHeld => ?_)
            clear hK K
            refine norm_ (a' := ?_) ?_ ?_
            rotate_left
            · show Act.put _ (some 30) _ = _
              simp only [Act.put, List.setIfInBounds_toArray, List.set_cons_zero, List.set_cons_succ, i64_w, i32_w]
              rfl
            refine one_ (i := 5) (N := some 32) #[true, true, true, true, true, true, true, true, false, false, false, false, false, false, false, false, false, false, false, false, false, false] rfl rfl (one_of HT_.out (by kernel_rfl)) (by decide) (fun K hK => ?_)
            refine goes_ Tryz.func14 (by kernel_rfl) rfl #[.string t115, .agg #[.int .i64 a2_0, .int .i64 a2_1, .int .i64 a2_2, .int .i64 a2_3, .int .i64 a2_4, .int .i64 a2_5]] (by rfl) rfl rfl (by (try simp only [List.map_toArray, List.map_cons, List.map_nil]); first | done | rfl | (simp only [List.length_drop, List.length_take]; rfl)) ?_
            with_reducible refine (impl_Valid.calls t115 a2_0 a2_1 a2_2 a2_3 a2_4 a2_5 t116 _ A18.out).mono ?_
            rintro e w32 ⟨rfl, hb⟩
            refine ⟨_, rfl, ?_⟩
            have n0_ := Aside0.mk (blk_below (g := gb106) (o := .cells #[.int .i64 a2_0, .int .i64 a2_1, .int .i64 a2_2, .int .i64 a2_3, .int .i64 a2_4, .int .i64 a2_5] 23 (0, 0)) (by (with_reducible repeat (first | refine blk_drewN ?_ _ | refine blk_drew ?_ | refine blk_alloc ?_ _)); exact BK106.out) hb)
            have n1_ := Aside0.mk (below_step (by repeat (first | (with_reducible first | exact HB.out | apply below_alloc | apply pw_below_drewN | apply below_drew1 | refine below_set ?_ GE106.out) | exact HB.out)) hb)
            clear BK106
            clear HB
            have BK106 := n0_
            have HB := n1_
            clear n0_ n1_
            (try clear hb)
            (try clear hb2)
            (try clear hk)
            (try clear hi)
            refine hK.out _ _ ⟨(blk_cell BK106.out 0).trans rfl, (blk_cell BK106.out 1).trans rfl, (blk_cell BK106.out 2).trans rfl, (blk_cell BK106.out 3).trans rfl, (blk_cell BK106.out 4).trans rfl, (blk_cell BK106.out 5).trans rfl⟩ (fun hHeld => ?_)
            clear hK K
            refine norm_ (a' := ?_) ?_ ?_
            rotate_left
            · show Act.put _ (some 32) _ = _
              simp only [Act.put, List.setIfInBounds_toArray, List.set_cons_zero, List.set_cons_succ, i64_w, i32_w]
              rfl
            refine one_ (i := 8) (N := some 35) #[true, true, true, true, true, true, true, true, true, false, false, false, false, false, false, false, false, false, false, false, false, false] rfl rfl (one_of HT_.out (by kernel_rfl)) (by decide) (fun K hK => ?_)
            refine goes_ Tryz.func17 (by kernel_rfl) rfl #[.int .i64 a0] (by rfl) rfl rfl (by (try simp only [List.map_toArray, List.map_cons, List.map_nil]); first | done | rfl | (simp only [List.length_drop, List.length_take]; rfl)) ?_
            with_reducible refine (spec_Low.calls a0 t117 _ A19.out).mono ?_
            rintro e w' ⟨rfl, ⟨nd, rfl⟩⟩
            refine ⟨_, rfl, ?_⟩
            refine hK.out _ _ ⟨(blk_cell BK106.out 0).trans rfl, (blk_cell BK106.out 1).trans rfl, (blk_cell BK106.out 2).trans rfl, (blk_cell BK106.out 3).trans rfl, (blk_cell BK106.out 4).trans rfl, (blk_cell BK106.out 5).trans rfl⟩ (fun hHeld => ?_)
            clear hK K
            refine norm_ (a' := ?_) ?_ ?_
            rotate_left
            · show Act.put _ (some 35) _ = _
              simp only [Act.put, List.setIfInBounds_toArray, List.set_cons_zero, List.set_cons_succ, i64_w, i32_w]
              rfl
            refine pure_ (i := 9) (N := some 36) (v := ?_) (a' := ?_) #[true, true, true, true, true, true, true, true, true, true, false, false, false, false, false, false, false, false, false, false, false, false] rfl rfl (any_of HT_.out (by kernel_rfl)) (fun _ _ _ h => h) (Or.inl ⟨by rfl, ?_⟩) ?_ ?_
            rotate_left
            · intro w'
              go_simp
              with_reducible rfl
            rotate_left
            · simp only [Act.put, List.setIfInBounds_toArray, List.set_cons_zero, List.set_cons_succ, i64_w, i32_w]
              rfl
            refine pure_ (i := 10) (N := some 37) (v := ?_) (a' := ?_) #[true, true, true, true, true, true, true, true, true, true, true, false, false, false, false, false, false, false, false, false, false, false] rfl rfl (any_of HT_.out (by kernel_rfl)) (fun _ _ _ h => h) (Or.inl ⟨by rfl, ?_⟩) ?_ ?_
            rotate_left
            · intro w'
              go_simp
              with_reducible rfl
            rotate_left
            · simp only [Act.put, List.setIfInBounds_toArray, List.set_cons_zero, List.set_cons_succ, i64_w, i32_w]
              rfl
            refine pure_ (i := 11) (N := some 38) (v := undef) (a' := ?_) #[true, true, true, true, true, true, true, true, true, true, true, true, false, false, false, false, false, false, false, false, false, false] rfl rfl (any_of HT_.out (by kernel_rfl)) (fun _ _ _ h => h) (Or.inr ⟨by rfl, rfl⟩) ?_ ?_
            rotate_left
            · simp only [Act.put, List.setIfInBounds_toArray, List.set_cons_zero, List.set_cons_succ, i64_w, i32_w]
              rfl
            refine pure_ (i := 12) (N := some 39) (v := undef) (a' := ?_) #[true, true, true, true, true, true, true, true, true, true, true, true, true, false, false, false, false, false, false, false, false, false] rfl rfl (any_of HT_.out (by kernel_rfl)) (fun _ _ _ h => h) (Or.inr ⟨by rfl, rfl⟩) ?_ ?_
            rotate_left
            · simp only [Act.put, List.setIfInBounds_toArray, List.set_cons_zero, List.set_cons_succ, i64_w, i32_w]
              rfl
            refine pure_ (i := 13) (N := some 40) (v := undef) (a' := ?_) #[true, true, true, true, true, true, true, true, true, true, true, true, true, true, false, false, false, false, false, false, false, false] rfl rfl (any_of HT_.out (by kernel_rfl)) (fun _ _ _ h => h) (Or.inr ⟨by rfl, rfl⟩) ?_ ?_
            rotate_left
            · simp only [Act.put, List.setIfInBounds_toArray, List.set_cons_zero, List.set_cons_succ, i64_w, i32_w]
              rfl
            refine pure_ (i := 14) (N := some 41) (v := undef) (a' := ?_) #[true, true, true, true, true, true, true, true, true, true, true, true, true, true, true, false, false, false, false, false, false, false] rfl rfl (any_of HT_.out (by kernel_rfl)) (fun _ _ _ h => h) (Or.inr ⟨by rfl, rfl⟩) ?_ ?_
            rotate_left
            · simp only [Act.put, List.setIfInBounds_toArray, List.set_cons_zero, List.set_cons_succ, i64_w, i32_w]
              rfl
            refine pure_ (i := 15) (N := some 42) (v := ?_) (a' := ?_) #[true, true, true, true, true, true, true, true, true, true, true, true, true, true, true, true, false, false, false, false, false, false] rfl rfl (any_of HT_.out (by kernel_rfl)) (fun _ _ _ h => h) (Or.inl ⟨by rfl, ?_⟩) ?_ ?_
            rotate_left
            · intro w'
              go_simp
              with_reducible rfl
            rotate_left
            · simp only [Act.put, List.setIfInBounds_toArray, List.set_cons_zero, List.set_cons_succ, i64_w, i32_w]
              rfl
            refine pure_ (i := 16) (N := some 43) (v := ?_) (a' := ?_) #[true, true, true, true, true, true, true, true, true, true, true, true, true, true, true, true, true, false, false, false, false, false] rfl rfl (any_of HT_.out (by kernel_rfl)) (fun _ _ _ h => h) (Or.inl ⟨by rfl, ?_⟩) ?_ ?_
            rotate_left
            · intro w'
              go_simp
              with_reducible rfl
            rotate_left
            · simp only [Act.put, List.setIfInBounds_toArray, List.set_cons_zero, List.set_cons_succ, i64_w, i32_w]
              rfl
            refine pure_ (i := 17) (N := some 44) (v := ?_) (a' := ?_) #[true, true, true, true, true, true, true, true, true, true, true, true, true, true, true, true, true, true, false, false, false, false] rfl rfl (any_of HT_.out (by kernel_rfl)) (fun _ _ _ h => h) (Or.inl ⟨by rfl, ?_⟩) ?_ ?_
            rotate_left
            · intro w'
              go_simp
              with_reducible rfl
            rotate_left
            · simp only [Act.put, List.setIfInBounds_toArray, List.set_cons_zero, List.set_cons_succ, i64_w, i32_w]
              rfl
            refine take_ (i := 18) (N := some 45) (v := ?_) (a' := ?_) #[true, true, true, true, true, true, true, true, true, true, true, true, true, true, true, true, true, true, true, false, false, false] rfl rfl (take_ofW HT_.out HW_.out (by kernel_rfl)) (fun _ _ _ h => h) (Or.inl ⟨by rfl, ?_⟩) hHeld ?_ ?_
            rotate_left
            · rintro w' ⟨s0, s1, s2, s3, s4, s5⟩
              go_simp
              with_reducible rfl
            rotate_left
            · simp only [Act.put, List.setIfInBounds_toArray, List.set_cons_zero, List.set_cons_succ, i64_w, i32_w]
              rfl
            refine one_ (i := 19) (N := some 46) #[true, true, true, true, true, true, true, true, true, true, true, true, true, true, true, true, true, true, true, true, false, false] rfl rfl (one_of HT_.out (by kernel_rfl)) (by decide) (fun K hK => ?_)
            refine goes_ Tryz.func14 (by kernel_rfl) rfl #[.string (⟨#[48, 32, 48, 32, 49, 32, 49, 32, 48]⟩ : ByteArray), .agg #[.int .i64 a2_0, .int .i64 a2_1, .int .i64 a2_2, .int .i64 a2_3, .int .i64 a2_4, .int .i64 a2_5]] (by rfl) rfl rfl (by (try simp only [List.map_toArray, List.map_cons, List.map_nil]); first | done | rfl | (simp only [List.length_drop, List.length_take]; rfl)) ?_
            with_reducible refine (impl_Valid.calls (⟨#[48, 32, 48, 32, 49, 32, 49, 32, 48]⟩ : ByteArray) a2_0 a2_1 a2_2 a2_3 a2_4 a2_5 t120 _ A30.out).mono ?_
            rintro e w33 ⟨rfl, hb⟩
            refine ⟨_, rfl, ?_⟩
            have n0_ := Aside0.mk (blk_below (g := gb106) (o := .cells #[.int .i64 a2_0, .int .i64 a2_1, .int .i64 a2_2, .int .i64 a2_3, .int .i64 a2_4, .int .i64 a2_5] 23 (0, 0)) (by (with_reducible repeat (first | refine blk_drewN ?_ _ | refine blk_drew ?_ | refine blk_alloc ?_ _)); exact BK106.out) hb)
            have n1_ := Aside0.mk (below_step (by repeat (first | (with_reducible first | exact HB.out | apply below_alloc | apply pw_below_drewN | apply below_drew1 | refine below_set ?_ GE106.out) | exact HB.out)) hb)
            clear BK106
            clear HB
            have BK106 := n0_
            have HB := n1_
            clear n0_ n1_
            (try clear hb)
            (try clear hb2)
            (try clear hk)
            (try clear hi)
            refine hK.out _ _ ⟨(blk_cell BK106.out 0).trans rfl, (blk_cell BK106.out 1).trans rfl, (blk_cell BK106.out 2).trans rfl, (blk_cell BK106.out 3).trans rfl, (blk_cell BK106.out 4).trans rfl, (blk_cell BK106.out 5).trans rfl⟩ (fun hHeld => ?_)
            clear hK K
            refine norm_ (a' := ?_) ?_ ?_
            rotate_left
            · show Act.put _ (some 46) _ = _
              simp only [Act.put, List.setIfInBounds_toArray, List.set_cons_zero, List.set_cons_succ, i64_w, i32_w]
              rfl
            refine pure_ (i := 20) (N := some 47) (v := ?_) (a' := ?_) #[true, true, true, true, true, true, true, true, true, true, true, true, true, true, true, true, true, true, true, true, true, false] rfl rfl (any_of HT_.out (by kernel_rfl)) (fun _ _ _ h => h) (Or.inl ⟨by rfl, ?_⟩) ?_ ?_
            rotate_left
            · intro w'
              go_simp
              with_reducible rfl
            rotate_left
            · simp only [Act.put, List.setIfInBounds_toArray, List.set_cons_zero, List.set_cons_succ, i64_w, i32_w]
              rfl
            refine pure_ (i := 21) (N := some 6) (v := ?_) (a' := ?_) #[true, true, true, true, true, true, true, true, true, true, true, true, true, true, true, true, true, true, true, true, true, true] rfl rfl (any_of HT_.out (by kernel_rfl)) (fun _ _ _ h => h) (Or.inl ⟨by rfl, ?_⟩) ?_ ?_
            rotate_left
            · intro w'
              go_simp
              with_reducible rfl
            rotate_left
            · simp only [Act.put, List.setIfInBounds_toArray, List.set_cons_zero, List.set_cons_succ, i64_w, i32_w]
              rfl
            refine done_ (done_of HT_.out (by kernel_rfl)) ?_
            try go_wp2
            go_ret
            exact ⟨by first | rfl | (simp [errW_none, errW_some] <;> rfl) | (simp [*, errW_none, errW_some] <;> rfl), by repeat (first | (with_reducible first | exact HB.out | apply below_alloc | apply pw_below_drewN | apply below_drew1 | refine below_set ?_ GE106.out) | exact HB.out)⟩
          · rw [if_neg c29] at H
            have c29b0 : (t116 == false) = false := by simpa using c29
            (try (have c29b1 : decide (t116 = false) = false := by simpa using c29))
            (try (have c29b2 : (t116 == false) = false := by simpa using c29))
            (try (have c29b3 : ¬ (t116 = false) := by simpa using c29))
            clear c29
            obtain rfl := Option.some.inj H
            try go_wp2
            have n0_ := Aside0.mk (blk_drew BK106.out)
            have n1_ := Aside0.mk (below_drew1 HB.out)
            clear BK106
            clear HB
            have BK106 := n0_
            have HB := n1_
            clear n0_ n1_
            refine start_ (n := 22) (S := fun w' => w'.cell? ⟨gb106, 0, none⟩ = some (.int .i64 a2_0) ∧ w'.cell? ⟨gb106, 1, none⟩ = some (.int .i64 a2_1) ∧ w'.cell? ⟨gb106, 2, none⟩ = some (.int .i64 a2_2) ∧ w'.cell? ⟨gb106, 3, none⟩ = some (.int .i64 a2_3) ∧ w'.cell? ⟨gb106, 4, none⟩ = some (.int .i64 a2_4) ∧ w'.cell? ⟨gb106, 5, none⟩ = some (.int .i64 a2_5)) (ds := []) #[false, false, false, false, false, false, false, false, false, false, false, false, false, false, false, false, false, false, false, false, false, false] (by kernel_rfl) rfl rfl ⟨(blk_cell BK106.out 0).trans rfl, (blk_cell BK106.out 1).trans rfl, (blk_cell BK106.out 2).trans rfl, (blk_cell BK106.out 3).trans rfl, (blk_cell BK106.out 4).trans rfl, (blk_cell BK106.out 5).trans rfl⟩ (fun hHeld => ?_); refine with_tabW laws_FnBounds.tab3 laws_FnBounds.bits3 (fun HT_ HW_ => ?_)
            generalize wc.drew = w34 at BK106 HB hHeld ⊢
            refine pure_ (i := 0) (N := some 27) (v := ?_) (a' := ?_) #[true, false, false, false, false, false, false, false, false, false, false, false, false, false, false, false, false, false, false, false, false, false] rfl rfl (any_of HT_.out (by kernel_rfl)) (fun _ _ _ h => h) (Or.inl ⟨by rfl, ?_⟩) ?_ ?_
            rotate_left
            · intro w'
              go_simp
              with_reducible rfl
            rotate_left
            · simp only [Act.put, List.setIfInBounds_toArray, List.set_cons_zero, List.set_cons_succ, i64_w, i32_w]
              rfl
            refine pure_ (i := 1) (N := some 28) (v := ?_) (a' := ?_) #[true, true, false, false, false, false, false, false, false, false, false, false, false, false, false, false, false, false, false, false, false, false] rfl rfl (any_of HT_.out (by kernel_rfl)) (fun _ _ _ h => h) (Or.inl ⟨by rfl, ?_⟩) ?_ ?_
            rotate_left
            · intro w'
              go_simp
              with_reducible rfl
            rotate_left
            · simp only [Act.put, List.setIfInBounds_toArray, List.set_cons_zero, List.set_cons_succ, i64_w, i32_w]
              rfl
            refine pure_ (i := 6) (N := some 33) (v := ?_) (a' := ?_) #[true, true, false, false, false, false, true, false, false, false, false, false, false, false, false, false, false, false, false, false, false, false] rfl rfl (any_of HT_.out (by kernel_rfl)) (fun _ _ _ h => h) (Or.inl ⟨by rfl, ?_⟩) ?_ ?_
            rotate_left
            · intro w'
              go_simp
              with_reducible rfl
            rotate_left
            · simp only [Act.put, List.setIfInBounds_toArray, List.set_cons_zero, List.set_cons_succ, i64_w, i32_w]
              rfl
            refine pure_ (i := 7) (N := some 34) (v := ?_) (a' := ?_) #[true, true, false, false, false, false, true, true, false, false, false, false, false, false, false, false, false, false, false, false, false, false] rfl rfl (any_of HT_.out (by kernel_rfl)) (fun _ _ _ h => h) (Or.inl ⟨by rfl, ?_⟩) ?_ ?_
            rotate_left
            · intro w'
              go_simp
              with_reducible rfl
            rotate_left
            · simp only [Act.put, List.setIfInBounds_toArray, List.set_cons_zero, List.set_cons_succ, i64_w, i32_w]
              rfl
            refine take_ (i := 4) (N := some 31) (v := ?_) (a' := ?_) #[true, true, false, false, true, false, true, true, false, false, false, false, false, false, false, false, false, false, false, false, false, false] rfl rfl (take_ofW HT_.out HW_.out (by kernel_rfl)) (fun _ _ _ h => h) (Or.inl ⟨by rfl, ?_⟩) hHeld ?_ ?_
            rotate_left
            · rintro w' ⟨s0, s1, s2, s3, s4, s5⟩
              go_simp
              with_reducible rfl
            rotate_left
            · simp only [Act.put, List.setIfInBounds_toArray, List.set_cons_zero, List.set_cons_succ, i64_w, i32_w]
              rfl
            refine one_ (i := 2) (N := some 29) #[true, true, true, false, true, false, true, true, false, false, false, false, false, false, false, false, false, false, false, false, false, false] rfl rfl (one_of HT_.out (by kernel_rfl)) (by decide) (fun K hK => ?_)
            refine goes_ Tryz.func16 (by kernel_rfl) rfl #[.int .i64 a1] (by rfl) rfl rfl (by (try simp only [List.map_toArray, List.map_cons, List.map_nil]); first | done | rfl | (simp only [List.length_drop, List.length_take]; rfl)) ?_
            with_reducible refine (spec_Decimal.calls kj3 a1 t114 _ A16.out).mono ?_
            rintro e w' ⟨rfl, ⟨nd, rfl⟩⟩
            refine ⟨_, rfl, ?_⟩
            refine hK.out _ _ ⟨(blk_cell BK106.out 0).trans rfl, (blk_cell BK106.out 1).trans rfl, (blk_cell BK106.out 2).trans rfl, (blk_cell BK106.out 3).trans rfl, (blk_cell BK106.out 4).trans rfl, (blk_cell BK106.out 5).trans rfl⟩ (fun hHeld => ?_)
            clear hK K
            refine norm_ (a' := ?_) ?_ ?_
            rotate_left
            · show Act.put _ (some 29) _ = _
              simp only [Act.put, List.setIfInBounds_toArray, List.set_cons_zero, List.set_cons_succ, i64_w, i32_w]
              rfl
            refine one_ (i := 3) (N := some 30) #[true, true, true, true, true, false, true, true, false, false, false, false, false, false, false, false, false, false, false, false, false, false] rfl rfl (one_of HT_.out (by kernel_rfl)) (by decide) (fun K hK => ?_)
            refine goes_ Tryz.func15 (by kernel_rfl) rfl #[.int .i64 a0, .string t114] (by rfl) rfl rfl (by (try simp only [List.map_toArray, List.map_cons, List.map_nil]); first | done | rfl | (simp only [List.length_drop, List.length_take]; rfl)) ?_
            with_reducible refine (laws_stars.calls kj3 a0 t114 t115 _ A17.out).mono ?_
            rintro e w' ⟨rfl, ⟨nd, rfl⟩⟩
            refine ⟨_, rfl, ?_⟩
            refine hK.out _ _ ⟨(blk_cell BK106.out 0).trans rfl, (blk_cell BK106.out 1).trans rfl, (blk_cell BK106.out 2).trans rfl, (blk_cell BK106.out 3).trans rfl, (blk_cell BK106.out 4).trans rfl, (blk_cell BK106.out 5).trans rfl⟩ (fun hHeld => ?_)
            clear hK K
            refine norm_ (a' := ?_) ?_ ?_
            rotate_left
            · show Act.put _ (some 30) _ = _
              simp only [Act.put, List.setIfInBounds_toArray, List.set_cons_zero, List.set_cons_succ, i64_w, i32_w]
              rfl
            refine one_ (i := 5) (N := some 32) #[true, true, true, true, true, true, true, true, false, false, false, false, false, false, false, false, false, false, false, false, false, false] rfl rfl (one_of HT_.out (by kernel_rfl)) (by decide) (fun K hK => ?_)
            refine goes_ Tryz.func14 (by kernel_rfl) rfl #[.string t115, .agg #[.int .i64 a2_0, .int .i64 a2_1, .int .i64 a2_2, .int .i64 a2_3, .int .i64 a2_4, .int .i64 a2_5]] (by rfl) rfl rfl (by (try simp only [List.map_toArray, List.map_cons, List.map_nil]); first | done | rfl | (simp only [List.length_drop, List.length_take]; rfl)) ?_
            with_reducible refine (impl_Valid.calls t115 a2_0 a2_1 a2_2 a2_3 a2_4 a2_5 t116 _ A18.out).mono ?_
            rintro e w35 ⟨rfl, hb⟩
            refine ⟨_, rfl, ?_⟩
            have n0_ := Aside0.mk (blk_below (g := gb106) (o := .cells #[.int .i64 a2_0, .int .i64 a2_1, .int .i64 a2_2, .int .i64 a2_3, .int .i64 a2_4, .int .i64 a2_5] 23 (0, 0)) (by (with_reducible repeat (first | refine blk_drewN ?_ _ | refine blk_drew ?_ | refine blk_alloc ?_ _)); exact BK106.out) hb)
            have n1_ := Aside0.mk (below_step (by repeat (first | (with_reducible first | exact HB.out | apply below_alloc | apply pw_below_drewN | apply below_drew1 | refine below_set ?_ GE106.out) | exact HB.out)) hb)
            clear BK106
            clear HB
            have BK106 := n0_
            have HB := n1_
            clear n0_ n1_
            (try clear hb)
            (try clear hb2)
            (try clear hk)
            (try clear hi)
            refine hK.out _ _ ⟨(blk_cell BK106.out 0).trans rfl, (blk_cell BK106.out 1).trans rfl, (blk_cell BK106.out 2).trans rfl, (blk_cell BK106.out 3).trans rfl, (blk_cell BK106.out 4).trans rfl, (blk_cell BK106.out 5).trans rfl⟩ (fun hHeld => ?_)
            clear hK K
            refine norm_ (a' := ?_) ?_ ?_
            rotate_left
            · show Act.put _ (some 32) _ = _
              simp only [Act.put, List.setIfInBounds_toArray, List.set_cons_zero, List.set_cons_succ, i64_w, i32_w]
              rfl
            refine one_ (i := 8) (N := some 35) #[true, true, true, true, true, true, true, true, true, false, false, false, false, false, false, false, false, false, false, false, false, false] rfl rfl (one_of HT_.out (by kernel_rfl)) (by decide) (fun K hK => ?_)
            refine goes_ Tryz.func17 (by kernel_rfl) rfl #[.int .i64 a0] (by rfl) rfl rfl (by (try simp only [List.map_toArray, List.map_cons, List.map_nil]); first | done | rfl | (simp only [List.length_drop, List.length_take]; rfl)) ?_
            with_reducible refine (spec_Low.calls a0 t117 _ A19.out).mono ?_
            rintro e w' ⟨rfl, ⟨nd, rfl⟩⟩
            refine ⟨_, rfl, ?_⟩
            refine hK.out _ _ ⟨(blk_cell BK106.out 0).trans rfl, (blk_cell BK106.out 1).trans rfl, (blk_cell BK106.out 2).trans rfl, (blk_cell BK106.out 3).trans rfl, (blk_cell BK106.out 4).trans rfl, (blk_cell BK106.out 5).trans rfl⟩ (fun hHeld => ?_)
            clear hK K
            refine norm_ (a' := ?_) ?_ ?_
            rotate_left
            · show Act.put _ (some 35) _ = _
              simp only [Act.put, List.setIfInBounds_toArray, List.set_cons_zero, List.set_cons_succ, i64_w, i32_w]
              rfl
            refine pure_ (i := 9) (N := some 36) (v := ?_) (a' := ?_) #[true, true, true, true, true, true, true, true, true, true, false, false, false, false, false, false, false, false, false, false, false, false] rfl rfl (any_of HT_.out (by kernel_rfl)) (fun _ _ _ h => h) (Or.inl ⟨by rfl, ?_⟩) ?_ ?_
            rotate_left
            · intro w'
              go_simp
              with_reducible rfl
            rotate_left
            · simp only [Act.put, List.setIfInBounds_toArray, List.set_cons_zero, List.set_cons_succ, i64_w, i32_w]
              rfl
            refine pure_ (i := 10) (N := some 37) (v := ?_) (a' := ?_) #[true, true, true, true, true, true, true, true, true, true, true, false, false, false, false, false, false, false, false, false, false, false] rfl rfl (any_of HT_.out (by kernel_rfl)) (fun _ _ _ h => h) (Or.inl ⟨by rfl, ?_⟩) ?_ ?_
            rotate_left
            · intro w'
              go_simp
              with_reducible rfl
            rotate_left
            · simp only [Act.put, List.setIfInBounds_toArray, List.set_cons_zero, List.set_cons_succ, i64_w, i32_w]
              rfl
            refine pure_ (i := 11) (N := some 38) (v := undef) (a' := ?_) #[true, true, true, true, true, true, true, true, true, true, true, true, false, false, false, false, false, false, false, false, false, false] rfl rfl (any_of HT_.out (by kernel_rfl)) (fun _ _ _ h => h) (Or.inr ⟨by rfl, rfl⟩) ?_ ?_
            rotate_left
            · simp only [Act.put, List.setIfInBounds_toArray, List.set_cons_zero, List.set_cons_succ, i64_w, i32_w]
              rfl
            refine pure_ (i := 12) (N := some 39) (v := undef) (a' := ?_) #[true, true, true, true, true, true, true, true, true, true, true, true, true, false, false, false, false, false, false, false, false, false] rfl rfl (any_of HT_.out (by kernel_rfl)) (fun _ _ _ h => h) (Or.inr ⟨by rfl, rfl⟩) ?_ ?_
            rotate_left
            · simp only [Act.put, List.setIfInBounds_toArray, List.set_cons_zero, List.set_cons_succ, i64_w, i32_w]
              rfl
            refine pure_ (i := 13) (N := some 40) (v := undef) (a' := ?_) #[true, true, true, true, true, true, true, true, true, true, true, true, true, true, false, false, false, false, false, false, false, false] rfl rfl (any_of HT_.out (by kernel_rfl)) (fun _ _ _ h => h) (Or.inr ⟨by rfl, rfl⟩) ?_ ?_
            rotate_left
            · simp only [Act.put, List.setIfInBounds_toArray, List.set_cons_zero, List.set_cons_succ, i64_w, i32_w]
              rfl
            refine pure_ (i := 14) (N := some 41) (v := undef) (a' := ?_) #[true, true, true, true, true, true, true, true, true, true, true, true, true, true, true, false, false, false, false, false, false, false] rfl rfl (any_of HT_.out (by kernel_rfl)) (fun _ _ _ h => h) (Or.inr ⟨by rfl, rfl⟩) ?_ ?_
            rotate_left
            · simp only [Act.put, List.setIfInBounds_toArray, List.set_cons_zero, List.set_cons_succ, i64_w, i32_w]
              rfl
            refine pure_ (i := 15) (N := some 42) (v := ?_) (a' := ?_) #[true, true, true, true, true, true, true, true, true, true, true, true, true, true, true, true, false, false, false, false, false, false] rfl rfl (any_of HT_.out (by kernel_rfl)) (fun _ _ _ h => h) (Or.inl ⟨by rfl, ?_⟩) ?_ ?_
            rotate_left
            · intro w'
              go_simp
              with_reducible rfl
            rotate_left
            · simp only [Act.put, List.setIfInBounds_toArray, List.set_cons_zero, List.set_cons_succ, i64_w, i32_w]
              rfl
            refine pure_ (i := 16) (N := some 43) (v := ?_) (a' := ?_) #[true, true, true, true, true, true, true, true, true, true, true, true, true, true, true, true, true, false, false, false, false, false] rfl rfl (any_of HT_.out (by kernel_rfl)) (fun _ _ _ h => h) (Or.inl ⟨by rfl, ?_⟩) ?_ ?_
            rotate_left
            · intro w'
              go_simp
              with_reducible rfl
            rotate_left
            · simp only [Act.put, List.setIfInBounds_toArray, List.set_cons_zero, List.set_cons_succ, i64_w, i32_w]
              rfl
            refine pure_ (i := 17) (N := some 44) (v := ?_) (a' := ?_) #[true, true, true, true, true, true, true, true, true, true, true, true, true, true, true, true, true, true, false, false, false, false] rfl rfl (any_of HT_.out (by kernel_rfl)) (fun _ _ _ h => h) (Or.inl ⟨by rfl, ?_⟩) ?_ ?_
            rotate_left
            · intro w'
              go_simp
              with_reducible rfl
            rotate_left
            · simp only [Act.put, List.setIfInBounds_toArray, List.set_cons_zero, List.set_cons_succ, i64_w, i32_w]
              rfl
            refine pure_ (i := 18) (N := some 45) (v := undef) (a' := ?_) #[true, true, true, true, true, true, true, true, true, true, true, true, true, true, true, true, true, true, true, false, false, false] rfl rfl (any_of HT_.out (by kernel_rfl)) (fun _ _ _ h => h) (Or.inr ⟨by rfl, rfl⟩) ?_ ?_
            rotate_left
            · simp only [Act.put, List.setIfInBounds_toArray, List.set_cons_zero, List.set_cons_succ, i64_w, i32_w]
              rfl
            refine pure_ (i := 19) (N := some 46) (v := undef) (a' := ?_) #[true, true, true, true, true, true, true, true, true, true, true, true, true, true, true, true, true, true, true, true, false, false] rfl rfl (any_of HT_.out (by kernel_rfl)) (fun _ _ _ h => h) (Or.inr ⟨by rfl, rfl⟩) ?_ ?_
            rotate_left
            · simp only [Act.put, List.setIfInBounds_toArray, List.set_cons_zero, List.set_cons_succ, i64_w, i32_w]
              rfl
            refine pure_ (i := 20) (N := some 47) (v := ?_) (a' := ?_) #[true, true, true, true, true, true, true, true, true, true, true, true, true, true, true, true, true, true, true, true, true, false] rfl rfl (any_of HT_.out (by kernel_rfl)) (fun _ _ _ h => h) (Or.inl ⟨by rfl, ?_⟩) ?_ ?_
            rotate_left
            · intro w'
              go_simp
              with_reducible rfl
            rotate_left
            · simp only [Act.put, List.setIfInBounds_toArray, List.set_cons_zero, List.set_cons_succ, i64_w, i32_w]
              rfl
            refine pure_ (i := 21) (N := some 6) (v := ?_) (a' := ?_) #[true, true, true, true, true, true, true, true, true, true, true, true, true, true, true, true, true, true, true, true, true, true] rfl rfl (any_of HT_.out (by kernel_rfl)) (fun _ _ _ h => h) (Or.inl ⟨by rfl, ?_⟩) ?_ ?_
            rotate_left
            · intro w'
              go_simp
              with_reducible rfl
            rotate_left
            · simp only [Act.put, List.setIfInBounds_toArray, List.set_cons_zero, List.set_cons_succ, i64_w, i32_w]
              rfl
            refine done_ (done_of HT_.out (by kernel_rfl)) ?_
            try go_wp2
            go_ret
            exact ⟨by first | rfl | (simp [errW_none, errW_some] <;> rfl) | (simp [*, errW_none, errW_some] <;> rfl), by repeat (first | (with_reducible first | exact HB.out | apply below_alloc | apply pw_below_drewN | apply below_drew1 | refine below_set ?_ GE106.out) | exact HB.out)⟩
end Go.Proofs.YtkhgeonlohafgaaGreatDoor.Core
namespace Go.Proofs.YtkhgeonlohafgaaGreatDoor.Core
open Go.RowKit Go.Proofs.YtkhgeonlohafgaaGreatDoorW.PrintWords Go.Proofs.YtkhgeonlohafgaaGreatDoorW.PrintLast Go.Proofs.YtkhgeonlohafgaaGreatDoorW.PrintMore
attribute [local go_sem] max2_int min2_int max_two min_two max_three min_three max_four min_four   -- for this text's walks alone
set_option linter.unusedVariables false
set_option linter.unusedSimpArgs false
theorem eqA57 (d : Nat) (w : World) (x0 y0 : Bool) (x1 y1 : Int) (x2 y2 : Int) (x3 y3 : Int) :
    (Op.equalIn (d + 2) 57 (.agg #[.bool x0, .int .i64 x1, .int .i64 x2, .int .i64 x3]) (.agg #[.bool y0, .int .i64 y1, .int .i64 y2, .int .i64 y3])).run Tryz.prog w = .ok (x0 == y0 && (x1 == y1 && (x2 == y2 && (x3 == y3)))) w := by
  refine eqA_of Tryz.underlying57 (by kernel_rfl) ?_
  refine eqf_cons (by rfl) (by go_simp; rfl) (by go_simp; rfl) (by go_simp) ?_
  refine eqf_cons (by rfl) (by go_simp; rfl) (by go_simp; rfl) (by go_simp) ?_
  refine eqf_cons (by rfl) (by go_simp; rfl) (by go_simp; rfl) (by go_simp) ?_
  exact eqf_last (by rfl) (by go_simp; rfl) (by go_simp; rfl) (by go_simp)
end Go.Proofs.YtkhgeonlohafgaaGreatDoor.Core
namespace Go.Proofs.YtkhgeonlohafgaaGreatDoor.Core
open Go.RowKit Go.Proofs.YtkhgeonlohafgaaGreatDoorW.PrintWords Go.Proofs.YtkhgeonlohafgaaGreatDoorW.PrintLast Go.Proofs.YtkhgeonlohafgaaGreatDoorW.PrintMore
attribute [local go_sem] max2_int min2_int max_two min_two max_three min_three max_four min_four   -- for this text's walks alone
set_option linter.unusedVariables false
set_option linter.unusedSimpArgs false
end Go.Proofs.YtkhgeonlohafgaaGreatDoor.Core
namespace Go.Proofs.YtkhgeonlohafgaaGreatDoor.Core
open Go.RowKit Go.Proofs.YtkhgeonlohafgaaGreatDoorW.PrintWords Go.Proofs.YtkhgeonlohafgaaGreatDoorW.PrintLast Go.Proofs.YtkhgeonlohafgaaGreatDoorW.PrintMore
attribute [local go_sem] max2_int min2_int max_two min_two max_three min_three max_four min_four   -- for this text's walks alone
set_option linter.unusedVariables false
set_option linter.unusedSimpArgs false
end Go.Proofs.YtkhgeonlohafgaaGreatDoor.Core
namespace Go.Proofs.YtkhgeonlohafgaaGreatDoor.Core
open Go.RowKit Go.Proofs.YtkhgeonlohafgaaGreatDoorW.PrintWords Go.Proofs.YtkhgeonlohafgaaGreatDoorW.PrintLast Go.Proofs.YtkhgeonlohafgaaGreatDoorW.PrintMore
attribute [local go_sem] max2_int min2_int max_two min_two max_three min_three max_four min_four   -- for this text's walks alone
set_option linter.unusedVariables false
set_option linter.unusedSimpArgs false
attribute [local go_sem high] eqA57
end Go.Proofs.YtkhgeonlohafgaaGreatDoor.Core
namespace Go.Proofs.YtkhgeonlohafgaaGreatDoor.Core
open Go.RowKit Go.Proofs.YtkhgeonlohafgaaGreatDoorW.PrintWords Go.Proofs.YtkhgeonlohafgaaGreatDoorW.PrintLast Go.Proofs.YtkhgeonlohafgaaGreatDoorW.PrintMore
attribute [local go_sem] max2_int min2_int max_two min_two max_three min_three max_four min_four   -- for this text's walks alone
set_option linter.unusedVariables false
set_option linter.unusedSimpArgs false
end Go.Proofs.YtkhgeonlohafgaaGreatDoor.Core
namespace Go.Proofs.YtkhgeonlohafgaaGreatDoor.Core
open Go.RowKit Go.Proofs.YtkhgeonlohafgaaGreatDoorW.PrintWords Go.Proofs.YtkhgeonlohafgaaGreatDoorW.PrintLast Go.Proofs.YtkhgeonlohafgaaGreatDoorW.PrintMore
attribute [local go_sem] max2_int min2_int max_two min_two max_three min_three max_four min_four   -- for this text's walks alone
set_option linter.unusedVariables false
set_option linter.unusedSimpArgs false
def gotime_dateToAbsDays.f (a0 : Int) (a1 : Int) (a2 : Int) : Option (Int) := if ((a1) % 4294967296) < 3 then (some (IntKind.u64.wrap ((IntKind.u64.wrap (Int.tdiv (IntKind.u64.wrap (146097 * (IntKind.u64.wrap (Int.tdiv (IntKind.u64.wrap ((IntKind.u64.wrap ((IntKind.u64.wrap (a0)) - 1)) + 292277022400)) 100)))) 4)) + (IntKind.u64.wrap (wrap64 ((wrap64 ((((((1461 * ((Int.tmod (IntKind.u64.wrap ((IntKind.u64.wrap ((IntKind.u64.wrap (a0)) - 1)) + 292277022400)) 100) % 4294967296)) % 4294967296) / 4) + (((((979 * ((((a1) % 4294967296) + (12 * 1)) % 4294967296)) % 4294967296) - 2919) % 4294967296) / 32)) % 4294967296) + a2)) - 1)))))) else (some (IntKind.u64.wrap ((IntKind.u64.wrap (Int.tdiv (IntKind.u64.wrap (146097 * (IntKind.u64.wrap (Int.tdiv (IntKind.u64.wrap ((IntKind.u64.wrap ((IntKind.u64.wrap (a0)) - 0)) + 292277022400)) 100)))) 4)) + (IntKind.u64.wrap (wrap64 ((wrap64 ((((((1461 * ((Int.tmod (IntKind.u64.wrap ((IntKind.u64.wrap ((IntKind.u64.wrap (a0)) - 0)) + 292277022400)) 100) % 4294967296)) % 4294967296) / 4) + (((((979 * (((a1) % 4294967296) + (12 * 0))) % 4294967296) - 2919) % 4294967296) / 32)) % 4294967296) + a2)) - 1))))))
set_option maxHeartbeats 8000000 in
set_option maxRecDepth 100000 in
theorem gotime_dateToAbsDays.calls (a0 : Int) (a1 : Int) (a2 : Int) (r : Int) (w : World) (h : gotime_dateToAbsDays.f a0 a1 a2 = some r) :
    Calls Tryz.prog 69 #[.int .i64 a0, .int .i64 a1, .int .i64 a2] w fun e w' => e = .returned (.int .u64 r) ∧ Drawn0 w w' := by
  have H : (if ((a1) % 4294967296) < 3 then (some (IntKind.u64.wrap ((IntKind.u64.wrap (Int.tdiv (IntKind.u64.wrap (146097 * (IntKind.u64.wrap (Int.tdiv (IntKind.u64.wrap ((IntKind.u64.wrap ((IntKind.u64.wrap (a0)) - 1)) + 292277022400)) 100)))) 4)) + (IntKind.u64.wrap (wrap64 ((wrap64 ((((((1461 * ((Int.tmod (IntKind.u64.wrap ((IntKind.u64.wrap ((IntKind.u64.wrap (a0)) - 1)) + 292277022400)) 100) % 4294967296)) % 4294967296) / 4) + (((((979 * ((((a1) % 4294967296) + (12 * 1)) % 4294967296)) % 4294967296) - 2919) % 4294967296) / 32)) % 4294967296) + a2)) - 1)))))) else (some (IntKind.u64.wrap ((IntKind.u64.wrap (Int.tdiv (IntKind.u64.wrap (146097 * (IntKind.u64.wrap (Int.tdiv (IntKind.u64.wrap ((IntKind.u64.wrap ((IntKind.u64.wrap (a0)) - 0)) + 292277022400)) 100)))) 4)) + (IntKind.u64.wrap (wrap64 ((wrap64 ((((((1461 * ((Int.tmod (IntKind.u64.wrap ((IntKind.u64.wrap ((IntKind.u64.wrap (a0)) - 0)) + 292277022400)) 100) % 4294967296)) % 4294967296) / 4) + (((((979 * (((a1) % 4294967296) + (12 * 0))) % 4294967296) - 2919) % 4294967296) / 32)) % 4294967296) + a2)) - 1))))))) = some r := h
  clear h
  by_cases c4 : ((a1) % 4294967296) < 3
  · rw [if_pos c4] at H
    have c4b0 : decide (((a1) % 4294967296) < 3) = true := decide_eq_true c4
    clear c4
    obtain rfl := Option.some.inj H
    go_enter Tryz.func69, Tryz.ntmps69
    go_wp2
    go_ret
    exact ⟨by first | rfl | (simp; done) | (simp [*]; done), by repeat (first | exact Drawn0.refl _ | apply Drawn0.step)⟩
  · rw [if_neg c4] at H
    have c4b0 : decide (((a1) % 4294967296) < 3) = false := decide_eq_false c4
    clear c4
    obtain rfl := Option.some.inj H
    go_enter Tryz.func69, Tryz.ntmps69
    go_wp2
    go_ret
    exact ⟨by first | rfl | (simp; done) | (simp [*]; done), by repeat (first | exact Drawn0.refl _ | apply Drawn0.step)⟩
end Go.Proofs.YtkhgeonlohafgaaGreatDoor.Core
namespace Go.Proofs.YtkhgeonlohafgaaGreatDoor.Core
open Go.RowKit Go.Proofs.YtkhgeonlohafgaaGreatDoorW.PrintWords Go.Proofs.YtkhgeonlohafgaaGreatDoorW.PrintLast Go.Proofs.YtkhgeonlohafgaaGreatDoorW.PrintMore
attribute [local go_sem] max2_int min2_int max_two min_two max_three min_three max_four min_four   -- for this text's walks alone
set_option linter.unusedVariables false
set_option linter.unusedSimpArgs false
def bits_Mul32.f (a0 : Int) (a1 : Int) : Option (Int × Int) := some (((IntKind.u64.wrap ((IntKind.u64.wrap (a0)) * (IntKind.u64.wrap (a1)))) / 4294967296) % 4294967296, (IntKind.u64.wrap ((IntKind.u64.wrap (a0)) * (IntKind.u64.wrap (a1)))) % 4294967296)
set_option maxHeartbeats 8000000 in
set_option maxRecDepth 100000 in
theorem bits_Mul32.calls (a0 : Int) (a1 : Int) (r1 : Int) (r2 : Int) (w : World) (h : bits_Mul32.f a0 a1 = some (r1, r2)) :
    Calls Tryz.prog 116 #[.int .u32 a0, .int .u32 a1] w fun e w' => e = .returned (.tuple #[.int .u32 r1, .int .u32 r2]) ∧ Drawn0 w w' := by
  have H : (some (((IntKind.u64.wrap ((IntKind.u64.wrap (a0)) * (IntKind.u64.wrap (a1)))) / 4294967296) % 4294967296, (IntKind.u64.wrap ((IntKind.u64.wrap (a0)) * (IntKind.u64.wrap (a1)))) % 4294967296)) = some (r1, r2) := h
  clear h
  simp only [Option.some.injEq, Prod.mk.injEq] at H
  obtain ⟨rfl, rfl⟩ := H
  go_enter Tryz.func116, Tryz.ntmps116
  go_wp2
  go_ret2
  exact ⟨by first | rfl | (simp; done) | (simp [*]; done), by repeat (first | exact Drawn0.refl _ | apply Drawn0.step)⟩
end Go.Proofs.YtkhgeonlohafgaaGreatDoor.Core
namespace Go.Proofs.YtkhgeonlohafgaaGreatDoor.Core
open Go.RowKit Go.Proofs.YtkhgeonlohafgaaGreatDoorW.PrintWords Go.Proofs.YtkhgeonlohafgaaGreatDoorW.PrintLast Go.Proofs.YtkhgeonlohafgaaGreatDoorW.PrintMore
attribute [local go_sem] max2_int min2_int max_two min_two max_three min_three max_four min_four   -- for this text's walks alone
set_option linter.unusedVariables false
set_option linter.unusedSimpArgs false
def gotime_absDays_split.f (a0 : Int) : Option (Int × Int × Int) := (bits_Mul32.f 2939745 (Go.bits .or .u32 ((Int.tmod (IntKind.u64.wrap ((IntKind.u64.wrap (4 * a0)) + 3)) 146097) % 4294967296) 3)).bind fun bt550 => (some (IntKind.u64.wrap (Int.tdiv (IntKind.u64.wrap ((IntKind.u64.wrap (4 * a0)) + 3)) 146097), wrap64 (bt550.1), ((Int.tdiv bt550.2 2939745) % 4294967296) / 4))
set_option maxHeartbeats 8000000 in
set_option maxRecDepth 100000 in
theorem gotime_absDays_split.calls (a0 : Int) (r1 : Int) (r2 : Int) (r3 : Int) (w : World) (h : gotime_absDays_split.f a0 = some (r1, r2, r3)) :
    Calls Tryz.prog 91 #[.int .u64 a0] w fun e w' => e = .returned (.tuple #[.int .u64 r1, .int .i64 r2, .int .i64 r3]) ∧ Drawn0 w w' := by
  have H : ((bits_Mul32.f 2939745 (Go.bits .or .u32 ((Int.tmod (IntKind.u64.wrap ((IntKind.u64.wrap (4 * a0)) + 3)) 146097) % 4294967296) 3)).bind fun bt550 => (some (IntKind.u64.wrap (Int.tdiv (IntKind.u64.wrap ((IntKind.u64.wrap (4 * a0)) + 3)) 146097), wrap64 (bt550.1), ((Int.tdiv bt550.2 2939745) % 4294967296) / 4))) = some (r1, r2, r3) := h
  clear h
  replace H := Option.bind_eq_some_iff.mp H
  obtain ⟨⟨t550, t551⟩, A20, H⟩ := H
  replace H : (some (IntKind.u64.wrap (Int.tdiv (IntKind.u64.wrap ((IntKind.u64.wrap (4 * a0)) + 3)) 146097), wrap64 (t550), ((Int.tdiv t551 2939745) % 4294967296) / 4)) = some (r1, r2, r3) := H
  have A2 := Aside0.mk A20
  clear A20
  simp only [Option.some.injEq, Prod.mk.injEq] at H
  obtain ⟨rfl, rfl, rfl⟩ := H
  go_enter Tryz.func91, Tryz.ntmps91
  go_wp2_with (first | ((with_reducible refine gate_callee (f := 116) rfl ?_); refine goesL_ (some 20) rfl rfl Tryz.func116 (by kernel_rfl) rfl #[.int .u32 2939745, .int .u32 (Go.bits .or .u32 ((Int.tmod (IntKind.u64.wrap ((IntKind.u64.wrap (4 * a0)) + 3)) 146097) % 4294967296) 3)] rfl (by (try simp only [List.map_toArray, List.map_cons, List.map_nil]); first | done | rfl | (simp only [List.length_drop, List.length_take]; rfl)) ?_; (with_reducible refine (bits_Mul32.calls 2939745 (Go.bits .or .u32 ((Int.tmod (IntKind.u64.wrap ((IntKind.u64.wrap (4 * a0)) + 3)) 146097) % 4294967296) 3) t550 t551 _ A2.out).mono ?_); rintro e w' ⟨rfl, ⟨nd, rfl⟩⟩; refine ⟨_, rfl, ?_⟩))
  go_ret3
  exact ⟨by first | rfl | (simp; done) | (simp [*]; done), by repeat (first | exact Drawn0.refl _ | apply Drawn0.step)⟩
end Go.Proofs.YtkhgeonlohafgaaGreatDoor.Core
namespace Go.Proofs.YtkhgeonlohafgaaGreatDoor.Core
open Go.RowKit Go.Proofs.YtkhgeonlohafgaaGreatDoorW.PrintWords Go.Proofs.YtkhgeonlohafgaaGreatDoorW.PrintLast Go.Proofs.YtkhgeonlohafgaaGreatDoorW.PrintMore
attribute [local go_sem] max2_int min2_int max_two min_two max_three min_three max_four min_four   -- for this text's walks alone
set_option linter.unusedVariables false
set_option linter.unusedSimpArgs false
def gotime_absYday_janFeb.f (a0 : Int) : Option (Int) := if a0 ≥ 306 then (some 1) else (some 0)
set_option maxHeartbeats 8000000 in
set_option maxRecDepth 100000 in
theorem gotime_absYday_janFeb.calls (a0 : Int) (r : Int) (w : World) (h : gotime_absYday_janFeb.f a0 = some r) :
    Calls Tryz.prog 92 #[.int .i64 a0] w fun e w' => e = .returned (.int .i64 r) ∧ Drawn0 w w' := by
  have H : (if a0 ≥ 306 then (some 1) else (some 0)) = some r := h
  clear h
  by_cases c2 : a0 ≥ 306
  · rw [if_pos c2] at H
    have c2b0 : decide (306 ≤ a0) = true := decide_eq_true c2
    clear c2
    obtain rfl := Option.some.inj H
    go_enter Tryz.func92, Tryz.ntmps92
    go_wp2
    go_ret
    exact ⟨by first | rfl | (simp; done) | (simp [*]; done), by repeat (first | exact Drawn0.refl _ | apply Drawn0.step)⟩
  · rw [if_neg c2] at H
    have c2b0 : decide (306 ≤ a0) = false := decide_eq_false c2
    clear c2
    obtain rfl := Option.some.inj H
    go_enter Tryz.func92, Tryz.ntmps92
    go_wp2
    go_ret
    exact ⟨by first | rfl | (simp; done) | (simp [*]; done), by repeat (first | exact Drawn0.refl _ | apply Drawn0.step)⟩
end Go.Proofs.YtkhgeonlohafgaaGreatDoor.Core
namespace Go.Proofs.YtkhgeonlohafgaaGreatDoor.Core
open Go.RowKit Go.Proofs.YtkhgeonlohafgaaGreatDoorW.PrintWords Go.Proofs.YtkhgeonlohafgaaGreatDoorW.PrintLast Go.Proofs.YtkhgeonlohafgaaGreatDoorW.PrintMore
attribute [local go_sem] max2_int min2_int max_two min_two max_three min_three max_four min_four   -- for this text's walks alone
set_option linter.unusedVariables false
set_option linter.unusedSimpArgs false
def gotime_absCentury_year.f (a0 : Int) (a1 : Int) (a2 : Int) : Option (Int) := some (wrap64 ((wrap64 ((wrap64 (IntKind.u64.wrap ((IntKind.u64.wrap (a0 * 100)) - 292277022400))) + a1)) + a2))
set_option maxHeartbeats 8000000 in
set_option maxRecDepth 100000 in
theorem gotime_absCentury_year.calls (a0 : Int) (a1 : Int) (a2 : Int) (r : Int) (w : World) (h : gotime_absCentury_year.f a0 a1 a2 = some r) :
    Calls Tryz.prog 93 #[.int .u64 a0, .int .i64 a1, .int .i64 a2] w fun e w' => e = .returned (.int .i64 r) ∧ Drawn0 w w' := by
  have H : (some (wrap64 ((wrap64 ((wrap64 (IntKind.u64.wrap ((IntKind.u64.wrap (a0 * 100)) - 292277022400))) + a1)) + a2))) = some r := h
  clear h
  obtain rfl := Option.some.inj H
  go_enter Tryz.func93, Tryz.ntmps93
  go_wp2
  go_ret
  exact ⟨by first | rfl | (simp; done) | (simp [*]; done), by repeat (first | exact Drawn0.refl _ | apply Drawn0.step)⟩
end Go.Proofs.YtkhgeonlohafgaaGreatDoor.Core
namespace Go.Proofs.YtkhgeonlohafgaaGreatDoor.Core
open Go.RowKit Go.Proofs.YtkhgeonlohafgaaGreatDoorW.PrintWords Go.Proofs.YtkhgeonlohafgaaGreatDoorW.PrintLast Go.Proofs.YtkhgeonlohafgaaGreatDoorW.PrintMore
attribute [local go_sem] max2_int min2_int max_two min_two max_three min_three max_four min_four   -- for this text's walks alone
set_option linter.unusedVariables false
set_option linter.unusedSimpArgs false
def gotime_absYday_split.f (a0 : Int) : Option (Int × Int) := some (((((2141 * ((a0) % 4294967296)) % 4294967296) + 197913) % 4294967296) / 65536, 1 + ((Int.tdiv (Go.bits .and .u32 ((((2141 * ((a0) % 4294967296)) % 4294967296) + 197913) % 4294967296) 65535) 2141) % 4294967296))
set_option maxHeartbeats 8000000 in
set_option maxRecDepth 100000 in
theorem gotime_absYday_split.calls (a0 : Int) (r1 : Int) (r2 : Int) (w : World) (h : gotime_absYday_split.f a0 = some (r1, r2)) :
    Calls Tryz.prog 94 #[.int .i64 a0] w fun e w' => e = .returned (.tuple #[.int .i64 r1, .int .i64 r2]) ∧ Drawn0 w w' := by
  have H : (some (((((2141 * ((a0) % 4294967296)) % 4294967296) + 197913) % 4294967296) / 65536, 1 + ((Int.tdiv (Go.bits .and .u32 ((((2141 * ((a0) % 4294967296)) % 4294967296) + 197913) % 4294967296) 65535) 2141) % 4294967296))) = some (r1, r2) := h
  clear h
  simp only [Option.some.injEq, Prod.mk.injEq] at H
  obtain ⟨rfl, rfl⟩ := H
  go_enter Tryz.func94, Tryz.ntmps94
  go_wp2
  go_ret2
  exact ⟨by first | rfl | (simp; done) | (simp [*]; done), by repeat (first | exact Drawn0.refl _ | apply Drawn0.step)⟩
end Go.Proofs.YtkhgeonlohafgaaGreatDoor.Core
namespace Go.Proofs.YtkhgeonlohafgaaGreatDoor.Core
open Go.RowKit Go.Proofs.YtkhgeonlohafgaaGreatDoorW.PrintWords Go.Proofs.YtkhgeonlohafgaaGreatDoorW.PrintLast Go.Proofs.YtkhgeonlohafgaaGreatDoorW.PrintMore
attribute [local go_sem] max2_int min2_int max_two min_two max_three min_three max_four min_four   -- for this text's walks alone
set_option linter.unusedVariables false
set_option linter.unusedSimpArgs false
def gotime_absMonth_month.f (a0 : Int) (a1 : Int) : Option (Int) := some (wrap64 (a0 - (wrap64 (a1 * 12))))
set_option maxHeartbeats 8000000 in
set_option maxRecDepth 100000 in
theorem gotime_absMonth_month.calls (a0 : Int) (a1 : Int) (r : Int) (w : World) (h : gotime_absMonth_month.f a0 a1 = some r) :
    Calls Tryz.prog 95 #[.int .i64 a0, .int .i64 a1] w fun e w' => e = .returned (.int .i64 r) ∧ Drawn0 w w' := by
  have H : (some (wrap64 (a0 - (wrap64 (a1 * 12))))) = some r := h
  clear h
  obtain rfl := Option.some.inj H
  go_enter Tryz.func95, Tryz.ntmps95
  go_wp2
  go_ret
  exact ⟨by first | rfl | (simp; done) | (simp [*]; done), by repeat (first | exact Drawn0.refl _ | apply Drawn0.step)⟩
end Go.Proofs.YtkhgeonlohafgaaGreatDoor.Core
namespace Go.Proofs.YtkhgeonlohafgaaGreatDoor.Core
open Go.RowKit Go.Proofs.YtkhgeonlohafgaaGreatDoorW.PrintWords Go.Proofs.YtkhgeonlohafgaaGreatDoorW.PrintLast Go.Proofs.YtkhgeonlohafgaaGreatDoorW.PrintMore
attribute [local go_sem] max2_int min2_int max_two min_two max_three min_three max_four min_four   -- for this text's walks alone
set_option linter.unusedVariables false
set_option linter.unusedSimpArgs false
end Go.Proofs.YtkhgeonlohafgaaGreatDoor.Core
namespace Go.Proofs.YtkhgeonlohafgaaGreatDoor.Core
open Go.RowKit Go.Proofs.YtkhgeonlohafgaaGreatDoorW.PrintWords Go.Proofs.YtkhgeonlohafgaaGreatDoorW.PrintLast Go.Proofs.YtkhgeonlohafgaaGreatDoorW.PrintMore
attribute [local go_sem] max2_int min2_int max_two min_two max_three min_three max_four min_four   -- for this text's walks alone
set_option linter.unusedVariables false
set_option linter.unusedSimpArgs false
def gotime_absDays_weekday.f (a0 : Int) : Option (Int) := some (wrap64 (Int.tmod (IntKind.u64.wrap (a0 + 3)) 7))
set_option maxHeartbeats 8000000 in
set_option maxRecDepth 100000 in
theorem gotime_absDays_weekday.calls (a0 : Int) (r : Int) (w : World) (h : gotime_absDays_weekday.f a0 = some r) :
    Calls Tryz.prog 111 #[.int .u64 a0] w fun e w' => e = .returned (.int .i64 r) ∧ Drawn0 w w' := by
  have H : (some (wrap64 (Int.tmod (IntKind.u64.wrap (a0 + 3)) 7))) = some r := h
  clear h
  obtain rfl := Option.some.inj H
  go_enter Tryz.func111, Tryz.ntmps111
  go_wp2
  go_ret
  exact ⟨by first | rfl | (simp; done) | (simp [*]; done), by repeat (first | exact Drawn0.refl _ | apply Drawn0.step)⟩
end Go.Proofs.YtkhgeonlohafgaaGreatDoor.Core
namespace Go.Proofs.YtkhgeonlohafgaaGreatDoor.Core
open Go.RowKit Go.Proofs.YtkhgeonlohafgaaGreatDoorW.PrintWords Go.Proofs.YtkhgeonlohafgaaGreatDoorW.PrintLast Go.Proofs.YtkhgeonlohafgaaGreatDoorW.PrintMore
attribute [local go_sem] max2_int min2_int max_two min_two max_three min_three max_four min_four   -- for this text's walks alone
set_option linter.unusedVariables false
set_option linter.unusedSimpArgs false
def gotime_absSeconds_days.f (a0 : Int) : Option (Int) := some (IntKind.u64.wrap (Int.tdiv a0 86400))
set_option maxHeartbeats 8000000 in
set_option maxRecDepth 100000 in
theorem gotime_absSeconds_days.calls (a0 : Int) (r : Int) (w : World) (h : gotime_absSeconds_days.f a0 = some r) :
    Calls Tryz.prog 90 #[.int .u64 a0] w fun e w' => e = .returned (.int .u64 r) ∧ Drawn0 w w' := by
  have H : (some (IntKind.u64.wrap (Int.tdiv a0 86400))) = some r := h
  clear h
  obtain rfl := Option.some.inj H
  go_enter Tryz.func90, Tryz.ntmps90
  go_wp2
  go_ret
  exact ⟨by first | rfl | (simp; done) | (simp [*]; done), by repeat (first | exact Drawn0.refl _ | apply Drawn0.step)⟩
end Go.Proofs.YtkhgeonlohafgaaGreatDoor.Core
namespace Go.Proofs.YtkhgeonlohafgaaGreatDoor.Core
open Go.RowKit Go.Proofs.YtkhgeonlohafgaaGreatDoorW.PrintWords
def B (l : List UInt8) : ByteArray := ⟨l.toArray⟩
theorem B_size (l : List UInt8) : (B l).size = l.length := by simp [B, ByteArray.size]
theorem B_data (l : List UInt8) : (B l).data.toList = l := by simp [B]
theorem B_list (l : List UInt8) : (B l).toList = l := by rw [Lib.toList_data, B_data]
theorem B_of (s : ByteArray) : B s.data.toList = s := by cases s; simp [B]
theorem B_ext_iff {s t : ByteArray} (h : s.data.toList = t.data.toList) : s = t := by rw [← B_of s, ← B_of t, h]
theorem B_app (l m : List UInt8) : B l ++ B m = B (l ++ m) := by
  apply B_ext_iff
  rw [B_data, ByteArray.data_append, Array.toList_append, B_data, B_data]
theorem B_cut (l : List UInt8) (i j : Nat) : (B l).extract i j = B ((l.drop i).take (j - i)) := by
  apply B_ext_iff
  rw [Lib.extract_data, B_data, B_data]
theorem B_bytesOf (l : List UInt8) : bytesOf (B l) = l.map fun b => (b.toNat : Int) := by rw [bytesOf, B_data]
theorem strOfNums_B (l : List UInt8) : strOfNums (l.map fun b => (b.toNat : Int)) = B l := by
  unfold strOfNums B
  congr 2
  rw [List.map_map]
  conv => rhs; rw [← List.map_id l]
  apply List.map_congr_left
  intro b _
  simp
theorem bt_B (l : List UInt8) (i : Int) (h0 : 0 ≤ i) (h : i < (l.length : Int)) : bt (B l) i = ((l[i.toNat]'(by omega)).toNat : Int) := by
  unfold bt
  rw [dif_pos (by rw [B_size]; omega)]
  have : (B l)[i.toNat]'(by rw [B_size]; omega) = l[i.toNat]'(by omega) := by simp [B, ByteArray.getElem_eq_getElem_data]
  rw [this]
theorem bt_B_at (l : List UInt8) (i : Nat) (h : i < l.length) : bt (B l) (i : Int) = ((l[i]).toNat : Int) := by
  rw [bt_B l _ (by omega) (by omega)]; simp
theorem wrap64_id {i : Int} (h0 : -9223372036854775808 ≤ i) (h1 : i ≤ 9223372036854775807) : wrap64 i = i := by unfold wrap64; omega
theorem wrap64_nat (i : Nat) (h : i < 9223372036854775807) : wrap64 ((i : Int) + 1) = ((i + 1 : Nat) : Int) := by rw [wrap64_id (by omega) (by omega)]; rfl
theorem rd_at (l : List Int) (i : Nat) : rd l (i : Int) = l.getD i 0 := by simp [rd]
theorem Ev.round {α : Type} {g f : Nat → Option α} {r : α} (k : Ev f r) (h : ∀ k, g (k + 1) = f k) : Ev g r := Ev.step h k
theorem Ev.eq {α : Type} {g : Nat → Option α} {r : α} (r' : α) (h : Ev g r') (e : r' = r) : Ev g r := e ▸ h
theorem Ev.done {α : Type} {g : Nat → Option α} {r : α} (h : ∀ k, g (k + 1) = some r) : Ev g r := Ev.step h (Ev.now r)
theorem Ev.const {α : Type} {o : Option α} {r : α} (h : o = some r) : Ev (fun _ => o) r := ⟨0, fun _ _ => h⟩
def decN (n : Nat) : List UInt8 := if _h : n < 10 then [UInt8.ofNat (48 + n)] else decN (n / 10) ++ [UInt8.ofNat (48 + n % 10)]
termination_by n
theorem decN_lt (n : Nat) (h : n < 10) : decN n = [UInt8.ofNat (48 + n)] := by rw [decN, dif_pos h]
theorem decN_ge (n : Nat) (h : ¬ n < 10) : decN n = decN (n / 10) ++ [UInt8.ofNat (48 + n % 10)] := by rw [decN, dif_neg h]
theorem decN_digit (n : Nat) : ∀ b ∈ decN n, 48 ≤ b.toNat ∧ b.toNat ≤ 57 := by
  induction n using decN.induct with
  | case1 n h =>
    rw [decN_lt n h]
    intro b hb
    rw [List.mem_singleton] at hb
    subst hb
    have : (48 + n) % 256 = 48 + n := by omega
    simp [this]
    omega
  | case2 n h ih =>
    rw [decN_ge n h]
    intro b hb
    rcases List.mem_append.1 hb with hb | hb
    · exact ih b hb
    · rw [List.mem_singleton] at hb
      subst hb
      have : (48 + n % 10) % 256 = 48 + n % 10 := by omega
      simp [this]
      omega
theorem decN_ne (n : Nat) : decN n ≠ [] := by
  by_cases h : n < 10
  · rw [decN_lt n h]; simp
  · rw [decN_ge n h]; simp
theorem decN_length (n : Nat) (m : Nat) (h : n < 10 ^ (m + 1)) : (decN n).length ≤ m + 1 := by
  induction m generalizing n with
  | zero => rw [decN_lt n (by simpa using h)]; simp
  | succ m ih =>
    by_cases h10 : n < 10
    · rw [decN_lt n h10]; simp
    · rw [decN_ge n h10]
      have := ih (n / 10) (by rw [Nat.div_lt_iff_lt_mul (by omega)]; rw [Nat.pow_succ] at h; exact h)
      simp
      omega
end Go.Proofs.YtkhgeonlohafgaaGreatDoor.Core
namespace Go.Proofs.YtkhgeonlohafgaaGreatDoor.Core
open Go.RowKit Go.Proofs.YtkhgeonlohafgaaGreatDoorW.PrintWords
def leapI (y : Int) : Bool := decide (y % 4 = 0) && (decide (y % 100 ≠ 0) || decide (y % 400 = 0))
def daysI (y mo : Int) : Int := if mo = 2 ∧ leapI y = true then 29 else rd [0, 31, 28, 31, 30, 31, 30, 31, 31, 30, 31, 30, 31] mo
structure DateOk (y mo d : Int) : Prop where
  y0 : 1989 ≤ y
  y1 : y ≤ 2092
  m0 : 1 ≤ mo
  m1 : mo ≤ 12
  d0 : 1 ≤ d
  d1 : d ≤ daysI y mo
def jfI (mo : Int) : Int := (14 - mo) / 12
def aydI (mo d : Int) : Int := (979 * (mo + 12 * jfI mo) - 2919) / 32 + d - 1
def absD (y mo d : Int) : Int := 146097 * ((y - jfI mo + 292277022400) / 100) / 4 + 1461 * ((y - jfI mo + 292277022400) % 100) / 4 + aydI mo d
theorem u64_id {x : Int} (h0 : 0 ≤ x) (h1 : x < 18446744073709551616) : IntKind.u64.wrap x = x := by
  have : IntKind.u64.wrap x = x % 18446744073709551616 := rfl
  omega
theorem months {mo : Int} (h0 : 1 ≤ mo) (h1 : mo ≤ 12) : mo = 1 ∨ mo = 2 ∨ mo = 3 ∨ mo = 4 ∨ mo = 5 ∨ mo = 6 ∨ mo = 7 ∨ mo = 8 ∨ mo = 9 ∨ mo = 10 ∨ mo = 11 ∨ mo = 12 := by omega
theorem dateToAbs_eq (y mo d : Int) (y0 : 1989 ≤ y) (y1 : y ≤ 2092) (m0 : 1 ≤ mo) (m1 : mo ≤ 12) (d0 : 1 ≤ d) (d1 : d ≤ 32) : gotime_dateToAbsDays.f y mo d = some (absD y mo d) := by
  unfold gotime_dateToAbsDays.f absD aydI jfI
  rcases months m0 m1 with h | h | h | h | h | h | h | h | h | h | h | h <;> subst h <;>
    (first | rw [if_pos (by decide)] | rw [if_neg (by decide)]) <;>
    simp (disch := omega) only [u64_id, wrap64_id, Int.tdiv_eq_ediv_of_nonneg, Int.tmod_eq_emod_of_nonneg, Int.emod_eq_of_lt, Int.reduceSub, Int.reduceDiv, Int.reduceAdd, Int.reduceMul, Int.sub_zero] <;>
    exact congrArg some (by omega)
theorem or3 (n : Int) (h0 : 0 ≤ n) (h1 : n < 1000000) : Go.bits .or .u32 n 3 = n / 4 * 4 + 3 := by
  obtain ⟨m, rfl⟩ : ∃ m : Nat, n = m := ⟨n.toNat, by omega⟩
  have e := u32_or_nat m 3 (by omega) (by omega)
  rw [show ((3 : Nat) : Int) = 3 from rfl] at e
  rw [e]
  have e2 : m ||| 3 = m / 4 * 4 + 3 := by
    have h4 : 2 ^ 2 * (m / 4) + m % 4 = 2 ^ 2 * (m / 4) ||| m % 4 := Nat.two_pow_add_eq_or_of_lt (by omega) _
    have h5 : 2 ^ 2 * (m / 4) + 3 = 2 ^ 2 * (m / 4) ||| 3 := Nat.two_pow_add_eq_or_of_lt (by omega) _
    have hr : m % 4 ||| 3 = 3 := by
      have : m % 4 < 4 := Nat.mod_lt _ (by omega)
      rcases (by omega : m % 4 = 0 ∨ m % 4 = 1 ∨ m % 4 = 2 ∨ m % 4 = 3) with h | h | h | h <;> rw [h] <;> rfl
    have hm : m = 2 ^ 2 * (m / 4) + m % 4 := by omega
    calc m ||| 3 = (2 ^ 2 * (m / 4) ||| m % 4) ||| 3 := by rw [← h4, ← hm]
      _ = 2 ^ 2 * (m / 4) ||| (m % 4 ||| 3) := Nat.or_assoc _ _ _
      _ = m / 4 * 4 + 3 := by rw [hr, ← h5]; omega
  omega
theorem and16 (n : Int) (h0 : 0 ≤ n) (h1 : n < 4294967296) : Go.bits .and .u32 n 65535 = n % 65536 := by
  obtain ⟨m, rfl⟩ : ∃ m : Nat, n = m := ⟨n.toNat, by omega⟩
  have e := u32_and_nat m 65535 (by omega) (by omega)
  rw [show ((65535 : Nat) : Int) = 65535 from rfl] at e
  rw [e]
  have e2 : m &&& 65535 = m % 65536 := Nat.and_two_pow_sub_one_eq_mod m 16
  omega
theorem leap_spec (y : Int) : leapI y = true ↔ y % 4 = 0 ∧ (y % 100 ≠ 0 ∨ y % 400 = 0) := by
  unfold leapI
  simp
theorem daysI_cases (y mo : Int) (m0 : 1 ≤ mo) (m1 : mo ≤ 12) : daysI y mo ≤ 31 ∧ 28 ≤ daysI y mo ∧ (mo = 2 → daysI y mo = if leapI y = true then 29 else 28) ∧ (mo = 4 ∨ mo = 6 ∨ mo = 9 ∨ mo = 11 → daysI y mo = 30) ∧ (mo = 1 ∨ mo = 3 ∨ mo = 5 ∨ mo = 7 ∨ mo = 8 ∨ mo = 10 ∨ mo = 12 → daysI y mo = 31) := by
  unfold daysI
  rcases months m0 m1 with h | h | h | h | h | h | h | h | h | h | h | h <;> subst h <;> cases hl : leapI y <;> simp [rd]
theorem split_at (C cy ayd : Int) (hC : C = 2922770243 ∨ (C = 2922770244 ∧ cy ≤ 95)) (c0 : 0 ≤ cy) (c1 : cy ≤ 99) (a0 : 0 ≤ ayd) (a1 : ayd ≤ 365) (a2 : ayd = 365 → cy % 4 = 3) :
    gotime_absDays_split.f (146097 * C / 4 + 1461 * cy / 4 + ayd) = some (C, cy, ayd) := by
  unfold gotime_absDays_split.f bits_Mul32.f
  have e1 : IntKind.u64.wrap (IntKind.u64.wrap (4 * (146097 * C / 4 + 1461 * cy / 4 + ayd)) + 3) = 4 * (146097 * C / 4 + 1461 * cy / 4 + ayd) + 3 := by
    rw [u64_id (x := 4 * (146097 * C / 4 + 1461 * cy / 4 + ayd)) (by omega) (by omega), u64_id (by omega) (by omega)]
  rw [e1, Int.tdiv_eq_ediv_of_nonneg (by omega), Int.tmod_eq_emod_of_nonneg (by omega)]
  have e2 : (4 * (146097 * C / 4 + 1461 * cy / 4 + ayd) + 3) / 146097 = C := by rcases hC with h | ⟨h, h95⟩ <;> subst h <;> omega
  have e3 : (4 * (146097 * C / 4 + 1461 * cy / 4 + ayd) + 3) % 146097 / 4 * 4 + 3 = 1461 * cy - cy % 4 + 4 * ayd + 3 := by rcases hC with h | ⟨h, h95⟩ <;> subst h <;> omega
  have e4 : (4 * (146097 * C / 4 + 1461 * cy / 4 + ayd) + 3) % 146097 % 4294967296 = (4 * (146097 * C / 4 + 1461 * cy / 4 + ayd) + 3) % 146097 := by omega
  rw [e2, e4, or3 _ (by omega) (by omega), e3]
  have b1 : 0 ≤ 1461 * cy - cy % 4 + 4 * ayd + 3 := by omega
  have b2 : 1461 * cy - cy % 4 + 4 * ayd + 3 < 146200 := by omega
  rw [u64_id (x := 2939745) (by omega) (by omega), u64_id (x := 1461 * cy - cy % 4 + 4 * ayd + 3) b1 (by omega), u64_id (x := 2939745 * (1461 * cy - cy % 4 + 4 * ayd + 3)) (by omega) (by omega), u64_id (x := C) (by omega) (by omega)]
  simp only [Option.bind_some]
  obtain ⟨r, hr⟩ : ∃ r : Int, r = 4 * ayd + 3 - cy % 4 := ⟨_, rfl⟩
  have hr0 : 0 ≤ r := by omega
  have hr1 : r ≤ 1460 := by omega
  have e5 : 2939745 * (1461 * cy - cy % 4 + 4 * ayd + 3) = 4294967296 * cy + (149 * cy + 2939745 * r) := by subst hr; omega
  rw [e5]
  obtain ⟨X, hX⟩ : ∃ X : Int, X = 149 * cy + 2939745 * r := ⟨_, rfl⟩
  have hX0 : 0 ≤ X := by omega
  have hX1 : X < 4294967296 := by omega
  have e9 : X / 2939745 = r := by omega
  rw [← hX]
  clear e1 e2 e3 e4 e5 b1 b2 hX
  have e6 : (4294967296 * cy + X) / 4294967296 = cy := by omega
  have e7 : (4294967296 * cy + X) % 4294967296 = X := by omega
  rw [e6, e7, Int.emod_eq_of_lt (by omega) (by omega), wrap64_id (by omega) (by omega), Int.tdiv_eq_ediv_of_nonneg (by omega), e9]
  have e8 : r % 4294967296 / 4 = ayd := by omega
  rw [e8]
theorem jf_01 {mo : Int} (h0 : 1 ≤ mo) (h1 : mo ≤ 12) : 0 ≤ jfI mo ∧ jfI mo ≤ 1 := by unfold jfI; omega
theorem ayd_range {y mo d : Int} (h : DateOk y mo d) : 0 ≤ aydI mo d ∧ aydI mo d ≤ 365 ∧ (aydI mo d = 365 → (y - jfI mo + 292277022400) % 100 % 4 = 3) := by
  obtain ⟨y0, y1, m0, m1, d0, d1⟩ := h
  obtain ⟨q1, q2, q3, q4, q5⟩ := daysI_cases y mo m0 m1
  unfold aydI jfI
  rcases months m0 m1 with h | h | h | h | h | h | h | h | h | h | h | h
  · have := q5 (by omega); subst h; refine ⟨by omega, by omega, by omega⟩
  · have := q3 h
    subst h
    cases hl : leapI y with
    | true =>
      have hlp := (leap_spec y).1 hl
      rw [hl] at this
      simp at this
      refine ⟨by omega, by omega, by omega⟩
    | false =>
      rw [hl] at this
      simp at this
      refine ⟨by omega, by omega, by omega⟩
  · have := q5 (by omega); subst h; refine ⟨by omega, by omega, by omega⟩
  · have := q4 (by omega); subst h; refine ⟨by omega, by omega, by omega⟩
  · have := q5 (by omega); subst h; refine ⟨by omega, by omega, by omega⟩
  · have := q4 (by omega); subst h; refine ⟨by omega, by omega, by omega⟩
  · have := q5 (by omega); subst h; refine ⟨by omega, by omega, by omega⟩
  · have := q5 (by omega); subst h; refine ⟨by omega, by omega, by omega⟩
  · have := q4 (by omega); subst h; refine ⟨by omega, by omega, by omega⟩
  · have := q5 (by omega); subst h; refine ⟨by omega, by omega, by omega⟩
  · have := q4 (by omega); subst h; refine ⟨by omega, by omega, by omega⟩
  · have := q5 (by omega); subst h; refine ⟨by omega, by omega, by omega⟩
theorem split_date {y mo d : Int} (h : DateOk y mo d) : gotime_absDays_split.f (absD y mo d) = some ((y - jfI mo + 292277022400) / 100, (y - jfI mo + 292277022400) % 100, aydI mo d) := by
  obtain ⟨r1, r2, r3⟩ := ayd_range h
  have hj := jf_01 h.m0 h.m1
  have := h.y0
  have := h.y1
  exact split_at _ _ _ (by omega) (by omega) (by omega) r1 r2 r3
theorem aydSplit {y mo d : Int} (h : DateOk y mo d) : gotime_absYday_split.f (aydI mo d) = some (mo + 12 * jfI mo, d) ∧ gotime_absYday_janFeb.f (aydI mo d) = some (jfI mo) ∧ gotime_absMonth_month.f (mo + 12 * jfI mo) (jfI mo) = some mo := by
  obtain ⟨y0, y1, m0, m1, d0, d1⟩ := h
  obtain ⟨q1, q2, q3, q4, q5⟩ := daysI_cases y mo m0 m1
  have key : ∀ A a : Int, 0 ≤ A → A ≤ 366 → (2141 * A + 197913) / 65536 = a → 0 ≤ (2141 * A + 197913) % 65536 / 2141 → gotime_absYday_split.f A = some (a, 1 + (2141 * A + 197913) % 65536 / 2141) := by
    intro A a h0 h1 ha h2
    unfold gotime_absYday_split.f
    have e1 : ((2141 * (A % 4294967296)) % 4294967296 + 197913) % 4294967296 = 2141 * A + 197913 := by omega
    rw [e1, and16 _ (by omega) (by omega), Int.tdiv_eq_ediv_of_nonneg (by omega), ha]
    have e2 : (2141 * A + 197913) % 65536 / 2141 % 4294967296 = (2141 * A + 197913) % 65536 / 2141 := by omega
    rw [e2]
  have fin : ∀ (c : Int), aydI mo d = c + d - 1 → 0 ≤ c + d - 1 → c + d - 1 ≤ 366 → (2141 * (c + d - 1) + 197913) / 65536 = mo + 12 * jfI mo → (2141 * (c + d - 1) + 197913) % 65536 / 2141 = d - 1 →
      gotime_absYday_split.f (aydI mo d) = some (mo + 12 * jfI mo, d) := by
    intro c hc b0 b1 e1 e2
    rw [hc, key (c + d - 1) _ b0 b1 e1 (by omega), e2]
    congr 2
    omega
  have jf : ∀ (c : Int), aydI mo d = c + d - 1 → (c + d - 1 ≥ 306 ↔ jfI mo = 1) → (jfI mo = 0 ∨ jfI mo = 1) → gotime_absYday_janFeb.f (aydI mo d) = some (jfI mo) := by
    intro c hc hi h01
    rw [hc]
    unfold gotime_absYday_janFeb.f
    by_cases hg : c + d - 1 ≥ 306
    · rw [if_pos hg, hi.1 hg]
    · rw [if_neg hg]
      rcases h01 with h | h
      · rw [h]
      · exact absurd (hi.2 h) hg
  have mon : gotime_absMonth_month.f (mo + 12 * jfI mo) (jfI mo) = some mo := by
    have hj := jf_01 m0 m1
    unfold gotime_absMonth_month.f
    rw [wrap64_id (i := jfI mo * 12) (by omega) (by omega), wrap64_id (by omega) (by omega)]
    congr 1
    omega
  have all : ∀ (m : Int), mo = m → ∀ (c j n : Int), jfI m = j → (979 * (m + 12 * j) - 2919) / 32 = c → daysI y mo ≤ n → (0 ≤ c) → (j = 0 ∧ c + n ≤ 306 ∨ j = 1 ∧ 306 ≤ c ∧ c + n ≤ 367) →
      (∀ d : Int, 1 ≤ d → d ≤ n → (2141 * (c + d - 1) + 197913) / 65536 = m + 12 * j ∧ (2141 * (c + d - 1) + 197913) % 65536 / 2141 = d - 1) →
      gotime_absYday_split.f (aydI mo d) = some (mo + 12 * jfI mo, d) ∧ gotime_absYday_janFeb.f (aydI mo d) = some (jfI mo) ∧ gotime_absMonth_month.f (mo + 12 * jfI mo) (jfI mo) = some mo := by
    intro m hm c j n hj hc hn c0 hjn hd
    subst hm
    have ha : aydI mo d = c + d - 1 := by unfold aydI; rw [hj, hc]
    obtain ⟨g1, g2⟩ := hd d d0 (by omega)
    refine ⟨fin c ha (by omega) (by omega) (by rw [hj]; exact g1) g2, jf c ha (by rw [hj]; omega) (by rw [hj]; omega), mon⟩
  rcases months m0 m1 with h | h | h | h | h | h | h | h | h | h | h | h
  · exact all 1 h 306 1 31 rfl rfl (by have := q5 (by omega); omega) (by omega) (by omega) (fun d _ _ => by omega)
  · exact all 2 h 337 1 29 rfl rfl (by have := q3 h; split at this <;> omega) (by omega) (by omega) (fun d _ _ => by omega)
  · exact all 3 h 0 0 31 rfl rfl (by have := q5 (by omega); omega) (by omega) (by omega) (fun d _ _ => by omega)
  · exact all 4 h 31 0 30 rfl rfl (by have := q4 (by omega); omega) (by omega) (by omega) (fun d _ _ => by omega)
  · exact all 5 h 61 0 31 rfl rfl (by have := q5 (by omega); omega) (by omega) (by omega) (fun d _ _ => by omega)
  · exact all 6 h 92 0 30 rfl rfl (by have := q4 (by omega); omega) (by omega) (by omega) (fun d _ _ => by omega)
  · exact all 7 h 122 0 31 rfl rfl (by have := q5 (by omega); omega) (by omega) (by omega) (fun d _ _ => by omega)
  · exact all 8 h 153 0 31 rfl rfl (by have := q5 (by omega); omega) (by omega) (by omega) (fun d _ _ => by omega)
  · exact all 9 h 184 0 30 rfl rfl (by have := q4 (by omega); omega) (by omega) (by omega) (fun d _ _ => by omega)
  · exact all 10 h 214 0 31 rfl rfl (by have := q5 (by omega); omega) (by omega) (by omega) (fun d _ _ => by omega)
  · exact all 11 h 245 0 30 rfl rfl (by have := q4 (by omega); omega) (by omega) (by omega) (fun d _ _ => by omega)
  · exact all 12 h 275 0 31 rfl rfl (by have := q5 (by omega); omega) (by omega) (by omega) (fun d _ _ => by omega)
theorem centuryYear {y mo d : Int} (h : DateOk y mo d) : gotime_absCentury_year.f ((y - jfI mo + 292277022400) / 100) ((y - jfI mo + 292277022400) % 100) (jfI mo) = some y := by
  have hj := jf_01 h.m0 h.m1
  have := h.y0
  have := h.y1
  unfold gotime_absCentury_year.f
  have e : IntKind.u64.wrap (IntKind.u64.wrap ((y - jfI mo + 292277022400) / 100 * 100) - 292277022400) = (IntKind.u64.wrap ((y - jfI mo + 292277022400) / 100 * 100) - 292277022400) % 18446744073709551616 := rfl
  rw [e, u64_id (by omega) (by omega)]
  have e2 : ((y - jfI mo + 292277022400) / 100 * 100 - 292277022400) % 18446744073709551616 = (y - jfI mo + 292277022400) / 100 * 100 - 292277022400 := by omega
  rw [e2, wrap64_id (i := (y - jfI mo + 292277022400) / 100 * 100 - 292277022400) (by omega) (by omega), wrap64_id (i := _ + (y - jfI mo + 292277022400) % 100) (by omega) (by omega), wrap64_id (by omega) (by omega)]
  congr 1
  omega
end Go.Proofs.YtkhgeonlohafgaaGreatDoor.Core
namespace Go.Proofs.YtkhgeonlohafgaaGreatDoor.Core
open Go.RowKit
theorem no_mono : (bits BinOp.and IntKind.u64 0 9223372036854775808 != 0) = false := by kernel_rfl
theorem ret_i64 {a b : Int} (h : a = b) : Ending.returned (.int .i64 a) = .returned (.int .i64 b) := by rw [h]
theorem ret_u64 {a b : Int} (h : a = b) : Ending.returned (.int .u64 a) = .returned (.int .u64 b) := by rw [h]
theorem sec_any (g : Nat) (x : Int) (w : World) (h0 : w.cell? ⟨g, 0, none⟩ = some (.int .u64 0)) (h1 : w.cell? ⟨g, 1, none⟩ = some (.int .i64 x)) :
    Calls Tryz.prog 119 #[.pointer (some ⟨g, 0, none⟩)] w fun e w' => e = .returned (.int .i64 x) ∧ w = w' := by
  have hm := no_mono
  go_enter Tryz.func119, Tryz.ntmps119
  go_wp2
  go_ret
  exact ⟨rfl, rfl⟩
theorem unixSec_any (g : Nat) (x : Int) (w : World) (hx0 : 62700000000 ≤ x) (hx1 : x ≤ 66100000000) (h0 : w.cell? ⟨g, 0, none⟩ = some (.int .u64 0)) (h1 : w.cell? ⟨g, 1, none⟩ = some (.int .i64 x)) :
    Calls Tryz.prog 115 #[.pointer (some ⟨g, 0, none⟩)] w fun e w' => e = .returned (.int .i64 (x - 62135596800)) ∧ w = w' := by
  go_enter Tryz.func115, Tryz.ntmps115
  go_wp2_with (go_at_call 119; refine (sec_any g x _ h0 h1).mono ?_; rintro e w' ⟨rfl, rfl⟩)
  go_ret
  exact ⟨ret_i64 (by omega), rfl⟩
theorem stripMono_any (g : Nat) (w : World) (h0 : w.cell? ⟨g, 0, none⟩ = some (.int .u64 0)) :
    Calls Tryz.prog 100 #[.pointer (some ⟨g, 0, none⟩)] w fun e w' => e = .returned (.tuple #[]) ∧ w = w' := by
  have hm := no_mono
  go_enter Tryz.func100, Tryz.ntmps100
  go_wp2
  go_end0
  exact ⟨rfl, rfl⟩
def utcCells : Array Value := #[.bool true, .string ⟨#[85, 84, 67]⟩, .slice none 0 0, .slice none 0 0, .string ⟨#[]⟩, .int .i64 0, .int .i64 0, .pointer none]
def IsUtc (w : World) (b : Nat) : Prop := w.heap[b]? = some (.cells utcCells 127)
theorem IsUtc.cell {w : World} {b : Nat} (h : IsUtc w b) (j : Nat) : w.cell? ⟨b, j, none⟩ = utcCells[j]? := by
  unfold IsUtc at h; simp [World.cell?, h]
theorem utc_any (w : World) :
    Calls Tryz.prog 46 #[] w fun e w' => e = .returned (.pointer (some ⟨w.heap.size, 0, none⟩)) ∧ w.alloc (.cells utcCells 127) = w' := by
  go_enter Tryz.func46, Tryz.ntmps46
  go_wp2
  go_ret
  exact ⟨rfl, rfl⟩
theorem get_nil (w : World) :
    Calls Tryz.prog 101 #[.pointer none] w fun e w' => e = .returned (.pointer (some ⟨w.heap.size, 0, none⟩)) ∧ w.alloc (.cells utcCells 127) = w' := by
  go_enter Tryz.func101, Tryz.ntmps101
  go_wp2_with (go_at_call 46; refine (utc_any _).mono ?_; rintro e w' ⟨rfl, rfl⟩)
  go_ret
  exact ⟨rfl, rfl⟩
theorem get_some (b : Nat) (w : World) :
    Calls Tryz.prog 101 #[.pointer (some ⟨b, 0, none⟩)] w fun e w' => e = .returned (.pointer (some ⟨b, 0, none⟩)) ∧ w = w' := by
  go_enter Tryz.func101, Tryz.ntmps101
  go_wp2
  go_ret
  exact ⟨rfl, rfl⟩
theorem unixTime_any (s : Int) (w : World) (h0 : 500000000 ≤ s) (h1 : s ≤ 4000000000) :
    Calls Tryz.prog 71 #[.int .i64 s, .int .i32 0] w fun e w' => e = .returned (.agg #[.int .u64 0, .int .i64 (s + 62135596800), .pointer none]) ∧ Below w.heap.size w w' := by
  go_enter Tryz.func71, Tryz.ntmps71
  go_wp2
  exact bodyPost_ret (v := .agg #[.int .u64 0, .int .i64 (s + 62135596800), .pointer none]) (by simp [results, Tryz.results71, go_sem]) rfl ⟨rfl, (Below.refl _ _).alloc (Nat.le_refl _) _⟩
theorem setLoc_any (g b : Nat) (x : Int) (w : World) (hg : w.heap[g]? = some (.cells #[.int .u64 0, .int .i64 x, .pointer none] 63)) (hb : w.cell? ⟨b, 0, none⟩ = some (.bool true)) :
    Calls Tryz.prog 72 #[.pointer (some ⟨g, 0, none⟩), .pointer (some ⟨b, 0, none⟩)] w fun e w' => e = .returned (.tuple #[]) ∧ w.setCell ⟨g, 2, none⟩ (.pointer none) = w' := by
  have h0 : w.cell? ⟨g, 0, none⟩ = some (.int .u64 0) := by simp [World.cell?, hg]
  have h2 : w.cell? ⟨g, 2, none⟩ = some (.pointer none) := by simp [World.cell?, hg]
  have f2 : w.frozen? ⟨g, 2, none⟩ = false := by simp [World.frozen?, hg]
  clear hg
  go_enter Tryz.func72, Tryz.ntmps72
  go_wp2_with (go_at_call 100; refine (stripMono_any g _ h0).mono ?_; rintro e w' ⟨rfl, rfl⟩)
  go_end0
  exact ⟨rfl, rfl⟩
set_option maxRecDepth 100000 in
theorem lookup_any (b : Nat) (s : Int) (w : World) (hb : w.cell? ⟨b, 2, none⟩ = some (.slice none 0 0)) :
    Calls Tryz.prog 70 #[.pointer (some ⟨b, 0, none⟩), .int .i64 s] w fun e w' => e = .returned (.tuple #[.string ⟨#[85, 84, 67]⟩, .int .i64 0, .int .i64 (-9223372036854775808), .int .i64 9223372036854775807, .bool false]) ∧ w = w' := by
  go_enter Tryz.func70, Tryz.ntmps70
  go_wp2_with (go_at_call 101; refine (get_some b _).mono ?_; rintro e w' ⟨rfl, rfl⟩)
  refine bodyPost_ret (v := .tuple #[.string ⟨#[85, 84, 67]⟩, .int .i64 0, .int .i64 (-9223372036854775808), .int .i64 9223372036854775807, .bool false]) (by simp [results, Tryz.results70, go_sem]) rfl ⟨rfl, rfl⟩
theorem alloc_new (w : World) (o : Obj) : (w.alloc o).heap[w.heap.size]? = some o := heap_alloc_new w o
theorem isUtc_new (w : World) (n : Nat) (h : n = w.heap.size) : IsUtc (w.alloc (.cells utcCells 127)) n := by subst h; exact alloc_new _ _
theorem utc0 : utcCells[0]? = some (.bool true) := rfl
set_option maxRecDepth 100000 in
theorem absSec_any (x : Int) (w : World) (hx0 : 62700000000 ≤ x) (hx1 : x ≤ 66100000000) :
    Calls Tryz.prog 89 #[.agg #[.int .u64 0, .int .i64 x, .pointer none]] w fun e w' => e = .returned (.int .u64 (x + 9223371966606163200)) ∧ Below w.heap.size w w' := by
  have hu := utc0
  go_enter Tryz.func89, Tryz.ntmps89
  go_wp2_with (first | (go_at_call 101; refine (get_nil _).mono ?_; rintro e w' ⟨rfl, rfl⟩) | (go_at_call 115; refine (unixSec_any _ x _ hx0 hx1 (by go_simp) (by go_simp)).mono ?_; rintro e w' ⟨rfl, rfl⟩))
  go_ret
  exact ⟨ret_u64 (by first | omega | (simp; omega)), (((Below.refl _ _).alloc (Nat.le_refl _) _).alloc (by simp) _)⟩
theorem location_any (x : Int) (w : World) :
    Calls Tryz.prog 59 #[.agg #[.int .u64 0, .int .i64 x, .pointer none]] w fun e w' => ∃ b, e = .returned (.pointer (some ⟨b, 0, none⟩)) ∧ w.heap.size ≤ b ∧ IsUtc w' b ∧ Below w.heap.size w w' := by
  go_enter Tryz.func59, Tryz.ntmps59
  go_wp2_with (go_at_call 46; refine (utc_any _).mono ?_; rintro e w' ⟨rfl, rfl⟩)
  go_ret
  exact ⟨_, rfl, by simp, isUtc_new _ _ (by simp), (((Below.refl _ _).alloc (Nat.le_refl _) _).alloc (by simp) _)⟩
end Go.Proofs.YtkhgeonlohafgaaGreatDoor.Core
namespace Go.Proofs.YtkhgeonlohafgaaGreatDoor.Core
open Go.RowKit Go.Proofs.YtkhgeonlohafgaaGreatDoorW.PrintWords
def cumI (y mo : Int) : Int := rd [0, 0, 31, 59, 90, 120, 151, 181, 212, 243, 273, 304, 334] mo + (if leapI y = true ∧ 2 < mo then 1 else 0)
def dayN (y mo d : Int) : Int := (y - 1) * 365 + (y - 1) / 4 - (y - 1) / 100 + (y - 1) / 400 + d + cumI y mo
def wdI (y mo d : Int) : Int := dayN y mo d % 7
theorem absD_table : ∀ i : Fin 104, ∀ m : Fin 12, absD (1989 + (i.val : Int)) (m.val + 1) 1 = dayN (1989 + (i.val : Int)) (m.val + 1) 1 + 106751990354237 := by decide +kernel
theorem absD_dayN (y mo d : Int) (y0 : 1989 ≤ y) (y1 : y ≤ 2092) (m0 : 1 ≤ mo) (m1 : mo ≤ 12) : absD y mo d = dayN y mo d + 106751990354237 := by
  have h := absD_table ⟨(y - 1989).toNat, by omega⟩ ⟨(mo - 1).toNat, by omega⟩
  simp only at h
  rw [show (1989 : Int) + ((y - 1989).toNat : Int) = y by omega, show (((mo - 1).toNat : Int) + 1) = mo by omega] at h
  have e1 : absD y mo d = absD y mo 1 + (d - 1) := by unfold absD aydI; omega
  have e2 : dayN y mo d = dayN y mo 1 + (d - 1) := by unfold dayN; omega
  rw [e1, e2, h]
  omega
theorem cumI_range (y mo : Int) (m0 : 1 ≤ mo) (m1 : mo ≤ 12) : 0 ≤ cumI y mo ∧ cumI y mo + daysI y mo ≤ 366 := by
  rcases months m0 m1 with h | h | h | h | h | h | h | h | h | h | h | h <;> subst h <;> cases hl : leapI y <;> simp [cumI, daysI, hl, rd]
theorem absD_range {y mo d : Int} (h : DateOk y mo d) : 106751991080340 ≤ absD y mo d ∧ absD y mo d ≤ 106751991118400 := by
  have e := absD_dayN y mo d h.y0 h.y1 h.m0 h.m1
  obtain ⟨c0, c1⟩ := cumI_range y mo h.m0 h.m1
  have := h.y0
  have := h.y1
  have := h.d0
  have := h.d1
  unfold dayN at e
  omega
theorem weekday_date {y mo d : Int} (h : DateOk y mo d) : gotime_absDays_weekday.f (absD y mo d) = some (wdI y mo d) := by
  have hr := absD_range h
  have e := absD_dayN y mo d h.y0 h.y1 h.m0 h.m1
  unfold gotime_absDays_weekday.f wdI
  rw [u64_id (by omega) (by omega), Int.tmod_eq_emod_of_nonneg (by omega), wrap64_id (by omega) (by omega), e]
  congr 1
  omega
def extOf (y mo d h mi s : Int) : Int := absD y mo d * 86400 + (h * 3600 + mi * 60 + s) - 9223371966606163200
structure ClockOk (h mi s : Int) : Prop where
  h0 : 0 ≤ h
  h1 : h ≤ 23
  m0 : 0 ≤ mi
  m1 : mi ≤ 59
  s0 : 0 ≤ s
  s1 : s ≤ 59
theorem ext_range {y mo d h mi s : Int} (hd : DateOk y mo d) (hc : ClockOk h mi s) : 62700000000 ≤ extOf y mo d h mi s ∧ extOf y mo d h mi s ≤ 66100000000 := by
  have := absD_range hd
  obtain ⟨h0, h1, m0, m1, s0, s1⟩ := hc
  unfold extOf
  omega
theorem days_ext {y mo d h mi s : Int} (hd : DateOk y mo d) (hc : ClockOk h mi s) : gotime_absSeconds_days.f (extOf y mo d h mi s + 9223371966606163200) = some (absD y mo d) := by
  have := absD_range hd
  obtain ⟨h0, h1, m0, m1, s0, s1⟩ := hc
  unfold gotime_absSeconds_days.f extOf
  have e : absD y mo d * 86400 + (h * 3600 + mi * 60 + s) - 9223371966606163200 + 9223371966606163200 = absD y mo d * 86400 + (h * 3600 + mi * 60 + s) := by omega
  rw [e, Int.tdiv_eq_ediv_of_nonneg (by omega)]
  have e2 : (absD y mo d * 86400 + (h * 3600 + mi * 60 + s)) / 86400 = absD y mo d := by omega
  rw [e2, u64_id (by omega) (by omega)]
end Go.Proofs.YtkhgeonlohafgaaGreatDoor.Core
namespace Go.Proofs.YtkhgeonlohafgaaGreatDoor.Core
open Go.RowKit Go.Proofs.YtkhgeonlohafgaaGreatDoorW.PrintWords Go.Proofs.YtkhgeonlohafgaaGreatDoorW.PrintLast Go.Proofs.YtkhgeonlohafgaaGreatDoorW.PrintMore
attribute [local go_sem] max2_int min2_int max_two min_two max_three min_three max_four min_four   -- for this text's walks alone
set_option linter.unusedVariables false
set_option linter.unusedSimpArgs false
end Go.Proofs.YtkhgeonlohafgaaGreatDoor.Core
namespace Go.Proofs.YtkhgeonlohafgaaGreatDoor.Core
open Go.RowKit Go.Proofs.YtkhgeonlohafgaaGreatDoorW.PrintWords
section
variable (x D C cy a j y mo d : Int) (w : World) (hx0 : 62700000000 ≤ x) (hx1 : x ≤ 66100000000)
include hx0 hx1
theorem year_w (h1 : Aside0 (gotime_absSeconds_days.f (x + 9223371966606163200) = some D)) (h2 : Aside0 (gotime_absDays_split.f D = some (C, cy, a))) (h3 : Aside0 (gotime_absYday_janFeb.f a = some j)) (h4 : Aside0 (gotime_absCentury_year.f C cy j = some y)) :
    Calls Tryz.prog 61 #[.agg #[.int .u64 0, .int .i64 x, .pointer none]] w fun e w' => e = .returned (.int .i64 y) ∧ Below w.heap.size w w' := by
  go_enter Tryz.func61, Tryz.ntmps61
  go_wp2_with (first | (go_at_call 89; refine (absSec_any x _ hx0 hx1).mono ?_; rintro e w1 ⟨rfl, hb⟩) | (go_at_call 90; refine (gotime_absSeconds_days.calls _ D _ h1.out).mono ?_; rintro e w2 ⟨rfl, ⟨n2, rfl⟩⟩) | (go_at_call 91; refine (gotime_absDays_split.calls _ C cy a _ h2.out).mono ?_; rintro e w3 ⟨rfl, ⟨n3, rfl⟩⟩) | (go_at_call 92; refine (gotime_absYday_janFeb.calls _ j _ h3.out).mono ?_; rintro e w4 ⟨rfl, ⟨n4, rfl⟩⟩) | (go_at_call 93; refine (gotime_absCentury_year.calls _ _ _ y _ h4.out).mono ?_; rintro e w5 ⟨rfl, ⟨n5, rfl⟩⟩))
  go_ret
  exact ⟨rfl, by repeat (first | exact hb | exact below_then (below_alloc (Below.refl _ _) _) (by simp) hb | apply pw_below_drewN)⟩
theorem month_w (h1 : Aside0 (gotime_absSeconds_days.f (x + 9223371966606163200) = some D)) (h2 : Aside0 (gotime_absDays_split.f D = some (C, cy, a))) (h3 : Aside0 (gotime_absYday_split.f a = some (j, d))) (h5 : Aside0 (gotime_absYday_janFeb.f a = some y)) (h4 : Aside0 (gotime_absMonth_month.f j y = some mo)) :
    Calls Tryz.prog 62 #[.agg #[.int .u64 0, .int .i64 x, .pointer none]] w fun e w' => e = .returned (.int .i64 mo) ∧ Below w.heap.size w w' := by
  go_enter Tryz.func62, Tryz.ntmps62
  go_wp2_with (first | (go_at_call 89; refine (absSec_any x _ hx0 hx1).mono ?_; rintro e w1 ⟨rfl, hb⟩) | (go_at_call 90; refine (gotime_absSeconds_days.calls _ D _ h1.out).mono ?_; rintro e w2 ⟨rfl, ⟨n2, rfl⟩⟩) | (go_at_call 91; refine (gotime_absDays_split.calls _ C cy a _ h2.out).mono ?_; rintro e w3 ⟨rfl, ⟨n3, rfl⟩⟩) | (go_at_call 94; refine (gotime_absYday_split.calls _ j d _ h3.out).mono ?_; rintro e w4 ⟨rfl, ⟨n4, rfl⟩⟩) | (go_at_call 92; refine (gotime_absYday_janFeb.calls _ y _ h5.out).mono ?_; rintro e w5 ⟨rfl, ⟨n5, rfl⟩⟩) | (go_at_call 95; refine (gotime_absMonth_month.calls _ _ mo _ h4.out).mono ?_; rintro e w6 ⟨rfl, ⟨n6, rfl⟩⟩))
  go_ret
  exact ⟨rfl, by repeat (first | exact hb | exact below_then (below_alloc (Below.refl _ _) _) (by simp) hb | apply pw_below_drewN)⟩
theorem day_w (h1 : Aside0 (gotime_absSeconds_days.f (x + 9223371966606163200) = some D)) (h2 : Aside0 (gotime_absDays_split.f D = some (C, cy, a))) (h3 : Aside0 (gotime_absYday_split.f a = some (j, d))) :
    Calls Tryz.prog 65 #[.agg #[.int .u64 0, .int .i64 x, .pointer none]] w fun e w' => e = .returned (.int .i64 d) ∧ Below w.heap.size w w' := by
  go_enter Tryz.func65, Tryz.ntmps65
  go_wp2_with (first | (go_at_call 89; refine (absSec_any x _ hx0 hx1).mono ?_; rintro e w1 ⟨rfl, hb⟩) | (go_at_call 90; refine (gotime_absSeconds_days.calls _ D _ h1.out).mono ?_; rintro e w2 ⟨rfl, ⟨n2, rfl⟩⟩) | (go_at_call 91; refine (gotime_absDays_split.calls _ C cy a _ h2.out).mono ?_; rintro e w3 ⟨rfl, ⟨n3, rfl⟩⟩) | (go_at_call 94; refine (gotime_absYday_split.calls _ j d _ h3.out).mono ?_; rintro e w4 ⟨rfl, ⟨n4, rfl⟩⟩))
  go_ret
  exact ⟨rfl, by repeat (first | exact hb | exact below_then (below_alloc (Below.refl _ _) _) (by simp) hb | apply pw_below_drewN)⟩
theorem weekday_w (h1 : Aside0 (gotime_absSeconds_days.f (x + 9223371966606163200) = some D)) (h2 : Aside0 (gotime_absDays_weekday.f D = some d)) :
    Calls Tryz.prog 84 #[.agg #[.int .u64 0, .int .i64 x, .pointer none]] w fun e w' => e = .returned (.int .i64 d) ∧ Below w.heap.size w w' := by
  go_enter Tryz.func84, Tryz.ntmps84
  go_wp2_with (first | (go_at_call 89; refine (absSec_any x _ hx0 hx1).mono ?_; rintro e w1 ⟨rfl, hb⟩) | (go_at_call 90; refine (gotime_absSeconds_days.calls _ D _ h1.out).mono ?_; rintro e w2 ⟨rfl, ⟨n2, rfl⟩⟩) | (go_at_call 111; refine (gotime_absDays_weekday.calls _ d _ h2.out).mono ?_; rintro e w3 ⟨rfl, ⟨n3, rfl⟩⟩))
  go_ret
  exact ⟨rfl, by repeat (first | exact hb | exact below_then (below_alloc (Below.refl _ _) _) (by simp) hb | apply pw_below_drewN)⟩
theorem hour_w : Calls Tryz.prog 83 #[.agg #[.int .u64 0, .int .i64 x, .pointer none]] w fun e w' => e = .returned (.int .i64 ((x + 9223371966606163200) % 86400 / 3600)) ∧ Below w.heap.size w w' := by
  go_enter Tryz.func83, Tryz.ntmps83
  go_wp2_with (go_at_call 89; refine (absSec_any x _ hx0 hx1).mono ?_; rintro e w1 ⟨rfl, hb⟩)
  go_ret
  exact ⟨ret_i64 (by first | rfl | omega), by repeat (first | exact hb | exact below_then (below_alloc (Below.refl _ _) _) (by simp) hb | apply pw_below_drewN)⟩
theorem minute_w : Calls Tryz.prog 82 #[.agg #[.int .u64 0, .int .i64 x, .pointer none]] w fun e w' => e = .returned (.int .i64 ((x + 9223371966606163200) % 3600 / 60)) ∧ Below w.heap.size w w' := by
  go_enter Tryz.func82, Tryz.ntmps82
  go_wp2_with (go_at_call 89; refine (absSec_any x _ hx0 hx1).mono ?_; rintro e w1 ⟨rfl, hb⟩)
  go_ret
  exact ⟨ret_i64 (by first | rfl | omega), by repeat (first | exact hb | exact below_then (below_alloc (Below.refl _ _) _) (by simp) hb | apply pw_below_drewN)⟩
theorem second_w : Calls Tryz.prog 81 #[.agg #[.int .u64 0, .int .i64 x, .pointer none]] w fun e w' => e = .returned (.int .i64 ((x + 9223371966606163200) % 60)) ∧ Below w.heap.size w w' := by
  go_enter Tryz.func81, Tryz.ntmps81
  go_wp2_with (go_at_call 89; refine (absSec_any x _ hx0 hx1).mono ?_; rintro e w1 ⟨rfl, hb⟩)
  go_ret
  exact ⟨ret_i64 (by first | rfl | omega), by repeat (first | exact hb | exact below_then (below_alloc (Below.refl _ _) _) (by simp) hb | apply pw_below_drewN)⟩
end
theorem norm_in (hi lo base : Int) (w : World) (h0 : 0 ≤ lo) (h1 : lo < base) :
    Calls Tryz.prog 68 #[.int .i64 hi, .int .i64 lo, .int .i64 base] w fun e w' => e = .returned (.tuple #[.int .i64 hi, .int .i64 lo]) ∧ w = w' := by
  have e1 : decide (lo < 0) = false := decide_eq_false (by omega)
  have e2 : decide (base ≤ lo) = false := decide_eq_false (by omega)
  go_enter Tryz.func68, Tryz.ntmps68
  go_wp2
  go_ret2
  exact ⟨rfl, rfl⟩
end Go.Proofs.YtkhgeonlohafgaaGreatDoor.Core
namespace Go.Proofs.YtkhgeonlohafgaaGreatDoor.Core
open Go.RowKit Go.Proofs.YtkhgeonlohafgaaGreatDoorW.PrintWords
theorem dta (y mo d D a b c : Int) (w : World) (hD : Aside0 (gotime_dateToAbsDays.f y mo d = some D)) (ha : a = y) (hb : b = mo) (hc : c = d) :
    Calls Tryz.prog 69 #[.int .i64 a, .int .i64 b, .int .i64 c] w fun e w' => e = .returned (.int .u64 D) ∧ Drawn0 w w' := by
  subst ha; subst hb; subst hc
  exact gotime_dateToAbsDays.calls _ _ _ D _ hD.out
theorem setLoc_after (g b : Nat) (x : Int) (w : World) (hg : w.heap[g]? = some (.cells #[.int .u64 0, .int .i64 x, .pointer none] 63)) (hb : w.cell? ⟨b, 0, none⟩ = some (.bool true)) :
    Calls Tryz.prog 72 #[.pointer (some ⟨g, 0, none⟩), .pointer (some ⟨b, 0, none⟩)] w fun e w' => e = .returned (.tuple #[]) ∧ w.setCell ⟨g, 2, none⟩ (.pointer none) = w' := setLoc_any g b x w hg hb
theorem ret_time {a b : Int} (h : a = b) : Ending.returned (.agg #[.int .u64 0, .int .i64 a, .pointer none]) = .returned (.agg #[.int .u64 0, .int .i64 b, .pointer none]) := by rw [h]
theorem cell_after {w w1 : World} {a : Addr} {v : Value} (h : Below w.heap.size w w1) (hc : w.cell? a = some v) : w1.cell? a = some v := pw_cell_below h hc
theorem after_tm {w w4 : World} {n : Nat} (h : Below ((w.alloc (.cells #[.int .u64 0, .int .i64 0, .pointer none] 63)).drewN n).heap.size ((w.alloc (.cells #[.int .u64 0, .int .i64 0, .pointer none] 63)).drewN n) w4) :
    w4.heap[w.heap.size]? = some (.cells #[.int .u64 0, .int .i64 0, .pointer none] 63) ∧ w.heap.size < w4.heap.size ∧ Below w.heap.size w w4 := by
  have hs : w.heap.size < ((w.alloc (.cells #[.int .u64 0, .int .i64 0, .pointer none] 63)).drewN n).heap.size := by
    show w.heap.size < (w.alloc _).heap.size; simp
  have hb : Below w.heap.size w ((w.alloc (.cells #[.int .u64 0, .int .i64 0, .pointer none] 63)).drewN n) := below_drewN ((Below.refl _ _).alloc (Nat.le_refl _) _) n
  exact ⟨(h.block w.heap.size hs).trans (heap_alloc_new w _), Nat.lt_of_lt_of_le hs h.size, hb.trans (h.mono (Nat.le_of_lt hs))⟩
theorem set_same {w : World} {a : Addr} {u v : Value} (h : w.cell? a = some u) : (w.setCell a v).cell? a = some v := World.cell?_setCell_same _ _ _ h
theorem set_other {w : World} {a b : Addr} {v : Value} (h : a ≠ b) : (w.setCell a v).cell? b = w.cell? b := World.cell?_setCell_other _ _ _ _ h
theorem res3 {w4 : World} {g : Nat} {x0 x1 x2 a b c : Value} {t : TypeId} (o : Obj) (hA : w4.heap[g]? = some (.cells #[x0, x1, x2] t)) :
    ((((w4.setCell ⟨g, 0, none⟩ a).setCell ⟨g, 1, none⟩ b).setCell ⟨g, 2, none⟩ c).alloc o).cell? ⟨g, 0, none⟩ = some a ∧
    ((((w4.setCell ⟨g, 0, none⟩ a).setCell ⟨g, 1, none⟩ b).setCell ⟨g, 2, none⟩ c).alloc o).cell? ⟨g, 1, none⟩ = some b ∧
    ((((w4.setCell ⟨g, 0, none⟩ a).setCell ⟨g, 1, none⟩ b).setCell ⟨g, 2, none⟩ c).alloc o).cell? ⟨g, 2, none⟩ = some c := by
  have h0 : w4.cell? ⟨g, 0, none⟩ = some x0 := by simp [World.cell?, hA]
  have h1 : w4.cell? ⟨g, 1, none⟩ = some x1 := by simp [World.cell?, hA]
  have h2 : w4.cell? ⟨g, 2, none⟩ = some x2 := by simp [World.cell?, hA]
  have k0 : (w4.setCell ⟨g, 0, none⟩ a).cell? ⟨g, 0, none⟩ = some a := set_same h0
  have k1 : ((w4.setCell ⟨g, 0, none⟩ a).setCell ⟨g, 1, none⟩ b).cell? ⟨g, 0, none⟩ = some a := (set_other (by simp)).trans k0
  have k2 : ((w4.setCell ⟨g, 0, none⟩ a).setCell ⟨g, 1, none⟩ b).cell? ⟨g, 1, none⟩ = some b := set_same ((set_other (by simp)).trans h1)
  have j0 := (set_other (v := c) (b := ⟨g, 0, none⟩) (a := ⟨g, 2, none⟩) (by simp)).trans k1
  have j1 := (set_other (v := c) (b := ⟨g, 1, none⟩) (a := ⟨g, 2, none⟩) (by simp)).trans k2
  have j2 : (((w4.setCell ⟨g, 0, none⟩ a).setCell ⟨g, 1, none⟩ b).setCell ⟨g, 2, none⟩ c).cell? ⟨g, 2, none⟩ = some c := set_same ((set_other (by simp)).trans ((set_other (by simp)).trans h2))
  exact ⟨cell_after ((Below.refl _ _).alloc (Nat.le_refl _) o) j0, cell_after ((Below.refl _ _).alloc (Nat.le_refl _) o) j1, cell_after ((Below.refl _ _).alloc (Nat.le_refl _) o) j2⟩
set_option maxRecDepth 100000 in
theorem date_w (y mo d h mi s D : Int) (b : Nat) (w : World) (hm0 : 1 ≤ mo) (hm1 : mo ≤ 12) (hh0 : 0 ≤ h) (hh1 : h ≤ 23) (hi0 : 0 ≤ mi) (hi1 : mi ≤ 59) (hs0 : 0 ≤ s) (hs1 : s ≤ 59)
    (hD : Aside0 (gotime_dateToAbsDays.f y mo d = some D)) (hD0 : 106751991080340 ≤ D) (hD1 : D ≤ 106751991118400) (hb0 : w.cell? ⟨b, 0, none⟩ = some (.bool true)) (hb2 : w.cell? ⟨b, 2, none⟩ = some (.slice none 0 0)) :
    Calls Tryz.prog 45 #[.int .i64 y, .int .i64 mo, .int .i64 d, .int .i64 h, .int .i64 mi, .int .i64 s, .int .i64 0, .pointer (some ⟨b, 0, none⟩)] w
      fun e w' => e = .returned (.agg #[.int .u64 0, .int .i64 (D * 86400 + (h * 3600 + mi * 60 + s) + -9223371966606163200), .pointer none]) ∧ Below w.heap.size w w' := by
  have hk : ∀ o n, ((w.alloc o).drewN n).cell? ⟨b, 2, none⟩ = some (.slice none 0 0) := fun o n => cell_after (below_drewN ((Below.refl _ _).alloc (Nat.le_refl _) o) n) hb2
  have hbB := World.block_lt_of_cell? w ⟨b, 0, none⟩ hb0
  go_enter Tryz.func45, Tryz.ntmps45
  go_wp2_with (first | (go_at_call 68; refine (norm_in _ _ _ _ (by omega) (by omega)).mono ?_; rintro e w' ⟨rfl, rfl⟩) | (go_at_call 69; refine (dta y mo d D _ _ _ _ hD (by omega) (by omega) (by omega)).mono ?_; rintro e w2 ⟨rfl, ⟨n2, rfl⟩⟩) | (go_at_call 70; refine (lookup_any b _ _ (hk _ _)).mono ?_; rintro e w3 ⟨rfl, rfl⟩) | (go_at_call 71; refine (unixTime_any _ _ (by omega) (by omega)).mono ?_; rintro e w4 ⟨rfl, hbl⟩; obtain ⟨hA, hsz, hbw⟩ := after_tm hbl; have hc0 := cell_after hbw hb0; have hcA0 : w4.cell? ⟨w.heap.size, 0, none⟩ = some (.int .u64 0) := (by simp [World.cell?, hA]); have hcA1 : w4.cell? ⟨w.heap.size, 1, none⟩ = some (.int .i64 0) := (by simp [World.cell?, hA]); have hcA2 : w4.cell? ⟨w.heap.size, 2, none⟩ = some (.pointer none) := (by simp [World.cell?, hA]); have hfA0 : w4.frozen? ⟨w.heap.size, 0, none⟩ = false := (by simp [World.frozen?, hA]); have hfA1 : w4.frozen? ⟨w.heap.size, 1, none⟩ = false := (by simp [World.frozen?, hA]); have hfA2 : w4.frozen? ⟨w.heap.size, 2, none⟩ = false := (by simp [World.frozen?, hA]); have hne : w.heap.size ≠ w4.heap.size := Nat.ne_of_lt hsz; have hne' : w4.heap.size ≠ w.heap.size := Nat.ne_of_gt hsz) | (go_at_call 72; refine (setLoc_after _ b _ _ (heap_alloc_new _ _) (cell_after ((Below.refl _ _).alloc (Nat.le_refl _) _) hc0)).mono ?_; rintro e w5 ⟨rfl, rfl⟩))
  obtain ⟨r0, r1, r2⟩ := res3 (a := .int .u64 0) (b := .int .i64 (D * 86400 + (h * 3600 + mi * 60 + s) + -9223372028741760000 + 62135596800)) (c := .pointer none) (.cells #[.int .u64 0, .int .i64 (D * 86400 + (h * 3600 + mi * 60 + s) + -9223372028741760000 + 62135596800), .pointer none] 63) hA
  refine bodyPost_ret (v := .agg #[.int .u64 0, .int .i64 (D * 86400 + (h * 3600 + mi * 60 + s) + -9223372028741760000 + 62135596800), .pointer none]) (by simp [results, Tryz.results45, go_sem, r0, r1, r2]) rfl ⟨ret_time (by omega), ?_⟩
  exact ((((hbw.setCell (Nat.le_refl _) _).setCell (Nat.le_refl _) _).setCell (Nat.le_refl _) _)).alloc (by simpa using Nat.le_of_lt hsz) _
end Go.Proofs.YtkhgeonlohafgaaGreatDoor.Core
namespace Go.Proofs.YtkhgeonlohafgaaGreatDoor.Core
open Go.RowKit Go.Proofs.YtkhgeonlohafgaaGreatDoorW.PrintWords Go.Proofs.YtkhgeonlohafgaaGreatDoorW.PrintLast Go.Proofs.YtkhgeonlohafgaaGreatDoorW.PrintMore
attribute [local go_sem] max2_int min2_int max_two min_two max_three min_three max_four min_four   -- for this text's walks alone
set_option linter.unusedVariables false
set_option linter.unusedSimpArgs false
def spec_Leap.f (a0 : Int) : Option (Bool) := if (Int.tmod a0 4) = 0 then (if (Int.tmod a0 100) = 0 then (some ((Int.tmod a0 400) == 0)) else (some true)) else (some false)
set_option maxHeartbeats 8000000 in
set_option maxRecDepth 100000 in
theorem spec_Leap.calls (a0 : Int) (r : Bool) (w : World) (h : spec_Leap.f a0 = some r) :
    Calls Tryz.prog 42 #[.int .i64 a0] w fun e w' => e = .returned (.bool r) ∧ Drawn0 w w' := by
  have H : (if (Int.tmod a0 4) = 0 then (if (Int.tmod a0 100) = 0 then (some ((Int.tmod a0 400) == 0)) else (some true)) else (some false)) = some r := h
  clear h
  by_cases c2 : (Int.tmod a0 4) = 0
  · rw [if_pos c2] at H
    have c2b0 : ((Int.tmod a0 4) == 0) = true := beq_iff_eq.mpr c2
    have c2b1 : ((Int.tmod a0 4) != 0) = false := bne_eq_false_iff_eq.mpr c2
    clear c2
    by_cases c3 : (Int.tmod a0 100) = 0
    · rw [if_pos c3] at H
      have c3b0 : ((Int.tmod a0 100) == 0) = true := beq_iff_eq.mpr c3
      have c3b1 : ((Int.tmod a0 100) != 0) = false := bne_eq_false_iff_eq.mpr c3
      clear c3
      obtain rfl := Option.some.inj H
      go_enter Tryz.func42, Tryz.ntmps42
      go_wp2
      go_ret
      exact ⟨by first | rfl | (simp; done) | (simp [*]; done), by repeat (first | exact Drawn0.refl _ | apply Drawn0.step)⟩
    · rw [if_neg c3] at H
      have c3b0 : ((Int.tmod a0 100) == 0) = false := beq_eq_false_iff_ne.mpr c3
      have c3b1 : ((Int.tmod a0 100) != 0) = true := bne_iff_ne.mpr c3
      obtain rfl := Option.some.inj H
      go_enter Tryz.func42, Tryz.ntmps42
      go_wp2
      go_ret
      exact ⟨by first | rfl | (simp; done) | (simp [*]; done), by repeat (first | exact Drawn0.refl _ | apply Drawn0.step)⟩
  · rw [if_neg c2] at H
    have c2b0 : ((Int.tmod a0 4) == 0) = false := beq_eq_false_iff_ne.mpr c2
    have c2b1 : ((Int.tmod a0 4) != 0) = true := bne_iff_ne.mpr c2
    obtain rfl := Option.some.inj H
    go_enter Tryz.func42, Tryz.ntmps42
    go_wp2
    go_ret
    exact ⟨by first | rfl | (simp; done) | (simp [*]; done), by repeat (first | exact Drawn0.refl _ | apply Drawn0.step)⟩
end Go.Proofs.YtkhgeonlohafgaaGreatDoor.Core
namespace Go.Proofs.YtkhgeonlohafgaaGreatDoor.Core
open Go.RowKit Go.Proofs.YtkhgeonlohafgaaGreatDoorW.PrintWords Go.Proofs.YtkhgeonlohafgaaGreatDoorW.PrintLast Go.Proofs.YtkhgeonlohafgaaGreatDoorW.PrintMore
attribute [local go_sem] max2_int min2_int max_two min_two max_three min_three max_four min_four   -- for this text's walks alone
set_option linter.unusedVariables false
set_option linter.unusedSimpArgs false
def spec_Days.f (a0 : Int) (a1 : Int) : Option (Int) := if a1 = 2 then ((spec_Leap.f a0).bind fun t283 => (if t283 = true then (some 29) else (if 0 ≤ a1 then (if a1 < 13 then (some (rd [0, 31, 28, 31, 30, 31, 30, 31, 31, 30, 31, 30, 31] a1)) else (none)) else (none)))) else (if 0 ≤ a1 then (if a1 < 13 then (some (rd [0, 31, 28, 31, 30, 31, 30, 31, 31, 30, 31, 30, 31] a1)) else (none)) else (none))
set_option maxHeartbeats 8000000 in
set_option maxRecDepth 100000 in
theorem spec_Days.calls (a0 : Int) (a1 : Int) (r : Int) (w : World) (h : spec_Days.f a0 a1 = some r) :
    Calls Tryz.prog 29 #[.int .i64 a0, .int .i64 a1] w fun e w' => e = .returned (.int .i64 r) ∧ Drawn0 w w' := by
  have hu82 := Tryz.underlying82
  have H : (if a1 = 2 then ((spec_Leap.f a0).bind fun t283 => (if t283 = true then (some 29) else (if 0 ≤ a1 then (if a1 < 13 then (some (rd [0, 31, 28, 31, 30, 31, 30, 31, 31, 30, 31, 30, 31] a1)) else (none)) else (none)))) else (if 0 ≤ a1 then (if a1 < 13 then (some (rd [0, 31, 28, 31, 30, 31, 30, 31, 31, 30, 31, 30, 31] a1)) else (none)) else (none))) = some r := h
  clear h
  by_cases c3 : a1 = 2
  · rw [if_pos c3] at H
    have c3b0 : (a1 == 2) = true := beq_iff_eq.mpr c3
    have c3b1 : (a1 != 2) = false := bne_eq_false_iff_eq.mpr c3
    clear c3
    replace H := Option.bind_eq_some_iff.mp H
    obtain ⟨t283, A40, H⟩ := H
    replace H : (if t283 = true then (some 29) else (if 0 ≤ a1 then (if a1 < 13 then (some (rd [0, 31, 28, 31, 30, 31, 30, 31, 31, 30, 31, 30, 31] a1)) else (none)) else (none))) = some r := H
    have A4 := Aside0.mk A40
    clear A40
    by_cases c5 : t283 = true
    · subst c5
      have H1 : (some 29) = some r := by rw [if_pos rfl] at H; exact H
      clear H
      have H := H1
      clear H1
      obtain rfl := Option.some.inj H
      go_enter Tryz.func29, Tryz.ntmps29
      go_wp2_with (first | (go_at_call 42; (with_reducible refine (spec_Leap.calls a0 true _ A4.out).mono ?_); rintro e w' ⟨rfl, ⟨nd, rfl⟩⟩))
      go_ret
      exact ⟨by first | rfl | (simp; done) | (simp [*]; done), by repeat (first | exact Drawn0.refl _ | apply Drawn0.step)⟩
    · replace c5 := Bool.eq_false_iff.mpr c5
      subst c5
      have H1 : (if 0 ≤ a1 then (if a1 < 13 then (some (rd [0, 31, 28, 31, 30, 31, 30, 31, 31, 30, 31, 30, 31] a1)) else (none)) else (none)) = some r := by rw [if_neg (show ¬ (false = true) by decide)] at H; exact H
      clear H
      have H := H1
      clear H1
      by_cases c6 : 0 ≤ a1
      · rw [if_pos c6] at H
        have c6b0 : decide (0 ≤ a1) = true := decide_eq_true c6
        clear c6
        by_cases c7 : a1 < 13
        · rw [if_pos c7] at H
          have c7b0 : decide (a1 < 13) = true := decide_eq_true c7
          clear c7
          have hixz284_ := fun w_ : World => (index_T82 0 31 28 31 30 31 30 31 31 30 31 30 31 a1 (of_decide_eq_true (by first | (with_reducible assumption) | assumption)) (of_decide_eq_true (by first | (with_reducible assumption) | assumption)) w_ : (Instr.index 82 (.agg #[.int .i64 0, .int .i64 31, .int .i64 28, .int .i64 31, .int .i64 30, .int .i64 31, .int .i64 30, .int .i64 31, .int .i64 31, .int .i64 30, .int .i64 31, .int .i64 30, .int .i64 31]) (.int .i64 a1)).run Tryz.prog w_ = .ok (.int .i64 (rd [0, 31, 28, 31, 30, 31, 30, 31, 31, 30, 31, 30, 31] a1)) w_)
          obtain rfl := Option.some.inj H
          go_enter Tryz.func29, Tryz.ntmps29
          go_wp2_with (first | (go_at_call 42; (with_reducible refine (spec_Leap.calls a0 false _ A4.out).mono ?_); rintro e w' ⟨rfl, ⟨nd, rfl⟩⟩))
          go_ret
          exact ⟨by first | rfl | (simp; done) | (simp [*]; done), by repeat (first | exact Drawn0.refl _ | apply Drawn0.step)⟩
        · rw [if_neg c7] at H
          exact absurd H (by simp)
      · rw [if_neg c6] at H
        exact absurd H (by simp)
  · rw [if_neg c3] at H
    have c3b0 : (a1 == 2) = false := beq_eq_false_iff_ne.mpr c3
    have c3b1 : (a1 != 2) = true := bne_iff_ne.mpr c3
    by_cases c8 : 0 ≤ a1
    · rw [if_pos c8] at H
      have c8b0 : decide (0 ≤ a1) = true := decide_eq_true c8
      clear c8
      by_cases c9 : a1 < 13
      · rw [if_pos c9] at H
        have c9b0 : decide (a1 < 13) = true := decide_eq_true c9
        clear c9
        have hixz285_ := fun w_ : World => (index_T82 0 31 28 31 30 31 30 31 31 30 31 30 31 a1 (of_decide_eq_true (by first | (with_reducible assumption) | assumption)) (of_decide_eq_true (by first | (with_reducible assumption) | assumption)) w_ : (Instr.index 82 (.agg #[.int .i64 0, .int .i64 31, .int .i64 28, .int .i64 31, .int .i64 30, .int .i64 31, .int .i64 30, .int .i64 31, .int .i64 31, .int .i64 30, .int .i64 31, .int .i64 30, .int .i64 31]) (.int .i64 a1)).run Tryz.prog w_ = .ok (.int .i64 (rd [0, 31, 28, 31, 30, 31, 30, 31, 31, 30, 31, 30, 31] a1)) w_)
        obtain rfl := Option.some.inj H
        go_enter Tryz.func29, Tryz.ntmps29
        go_wp2
        go_ret
        exact ⟨by first | rfl | (simp; done) | (simp [*]; done), by repeat (first | exact Drawn0.refl _ | apply Drawn0.step)⟩
      · rw [if_neg c9] at H
        exact absurd H (by simp)
    · rw [if_neg c8] at H
      exact absurd H (by simp)
end Go.Proofs.YtkhgeonlohafgaaGreatDoor.Core
namespace Go.Proofs.YtkhgeonlohafgaaGreatDoor.Core
open Go.RowKit Go.Proofs.YtkhgeonlohafgaaGreatDoorW.PrintWords
theorem tmodz (y n : Int) (h : 0 ≤ y) : Int.tmod y n = y % n := Int.tmod_eq_emod_of_nonneg h
theorem leap_some (y : Int) (h : 0 ≤ y) : spec_Leap.f y = some (leapI y) := by
  unfold spec_Leap.f leapI
  rw [tmodz y 4 h, tmodz y 100 h, tmodz y 400 h]
  by_cases h4 : y % 4 = 0
  · rw [if_pos h4]
    by_cases h1 : y % 100 = 0
    · rw [if_pos h1]; simp [h4, h1]; rfl
    · rw [if_neg h1]; simp [h4, h1]
  · rw [if_neg h4]; simp [h4]
theorem days_some (y mo : Int) (h : 0 ≤ y) (m0 : 1 ≤ mo) (m1 : mo ≤ 12) : spec_Days.f y mo = some (daysI y mo) := by
  unfold spec_Days.f daysI
  by_cases h2 : mo = 2
  · rw [if_pos h2, leap_some y h, Option.bind_some]
    cases hl : leapI y with
    | true => rw [if_pos rfl, if_pos ⟨h2, rfl⟩]
    | false => rw [if_neg (by simp), if_pos (by omega), if_pos (by omega), if_neg (by simp)]
  · rw [if_neg h2, if_pos (by omega), if_pos (by omega), if_neg (fun e => h2 e.1)]
theorem days_quiet (y mo : Int) (hd : spec_Days.f y mo = some (daysI y mo)) (w : World) (n : Nat) : Calls Tryz.prog 29 #[.int .i64 y, .int .i64 mo] (w.drewN n) fun e w'' => e = .returned (.int .i64 (daysI y mo)) ∧ ∃ m, w'' = w.drewN m := by
  refine Calls.quiet_of ((spec_Days.calls y mo (daysI y mo) _ hd).mono ?_)
  rintro e w' ⟨rfl, ⟨nd, rfl⟩⟩
  exact ⟨rfl, nd, rfl⟩
def goodM (y mo d h mi s : Int) : Bool := decide (1990 ≤ y ∧ y ≤ 2090 ∧ 1 ≤ mo ∧ mo ≤ 12 ∧ 1 ≤ d ∧ d ≤ daysI y mo ∧ 0 ≤ h ∧ h ≤ 23 ∧ 0 ≤ mi ∧ mi ≤ 59 ∧ 0 ≤ s ∧ s ≤ 59)
set_option maxRecDepth 100000 in
set_option maxHeartbeats 2000000 in
theorem mg_0 (y mo d h mi s : Int) (a0 : ¬ 1990 ≤ y) : GoodC y mo d h mi s false := by
  intro w
  replace a0 : (1990 ≤ y) = False := eq_false a0
  go_enter Tryz.func12, Tryz.ntmps12
  go_wp2
  go_quiet (fail)
  go_wp2
  go_ret
  exact ⟨rfl, by repeat (first | exact Below.refl _ _ | apply below_alloc | apply below_drew1 | apply pw_below_drewN)⟩
set_option maxRecDepth 100000 in
set_option maxHeartbeats 2000000 in
theorem mg_1 (y mo d h mi s : Int) (a0 : 1990 ≤ y) (a1 : ¬ y ≤ 2090) : GoodC y mo d h mi s false := by
  intro w
  replace a1 : (y ≤ 2090) = False := eq_false a1
  go_enter Tryz.func12, Tryz.ntmps12
  go_wp2
  go_quiet (fail)
  go_wp2
  go_ret
  exact ⟨rfl, by repeat (first | exact Below.refl _ _ | apply below_alloc | apply below_drew1 | apply pw_below_drewN)⟩
set_option maxRecDepth 100000 in
set_option maxHeartbeats 2000000 in
theorem mg_2 (y mo d h mi s : Int) (a0 : 1990 ≤ y) (a1 : y ≤ 2090) (a2 : ¬ 1 ≤ mo) : GoodC y mo d h mi s false := by
  intro w
  replace a2 : (1 ≤ mo) = False := eq_false a2
  go_enter Tryz.func12, Tryz.ntmps12
  go_wp2
  go_quiet (fail)
  go_wp2
  go_ret
  exact ⟨rfl, by repeat (first | exact Below.refl _ _ | apply below_alloc | apply below_drew1 | apply pw_below_drewN)⟩
set_option maxRecDepth 100000 in
set_option maxHeartbeats 2000000 in
theorem mg_3 (y mo d h mi s : Int) (a0 : 1990 ≤ y) (a1 : y ≤ 2090) (a2 : 1 ≤ mo) (a3 : ¬ mo ≤ 12) : GoodC y mo d h mi s false := by
  intro w
  replace a3 : (mo ≤ 12) = False := eq_false a3
  go_enter Tryz.func12, Tryz.ntmps12
  go_wp2
  go_quiet (fail)
  go_wp2
  go_ret
  exact ⟨rfl, by repeat (first | exact Below.refl _ _ | apply below_alloc | apply below_drew1 | apply pw_below_drewN)⟩
set_option maxRecDepth 100000 in
set_option maxHeartbeats 2000000 in
theorem mg_4 (y mo d h mi s : Int) (a0 : 1990 ≤ y) (a1 : y ≤ 2090) (a2 : 1 ≤ mo) (a3 : mo ≤ 12) (a4 : ¬ 1 ≤ d) : GoodC y mo d h mi s false := by
  intro w
  replace a4 : (1 ≤ d) = False := eq_false a4
  go_enter Tryz.func12, Tryz.ntmps12
  go_wp2
  go_quiet (fail)
  go_wp2
  go_ret
  exact ⟨rfl, by repeat (first | exact Below.refl _ _ | apply below_alloc | apply below_drew1 | apply pw_below_drewN)⟩
end Go.Proofs.YtkhgeonlohafgaaGreatDoor.Core
namespace Go.Proofs.YtkhgeonlohafgaaGreatDoor.Core
open Go.RowKit Go.Proofs.YtkhgeonlohafgaaGreatDoorW.PrintWords Go.Proofs.YtkhgeonlohafgaaGreatDoorW.PrintLast Go.Proofs.YtkhgeonlohafgaaGreatDoorW.PrintMore
attribute [local go_sem] max2_int min2_int max_two min_two max_three min_three max_four min_four   -- for this text's walks alone
set_option linter.unusedVariables false
set_option linter.unusedSimpArgs false
end Go.Proofs.YtkhgeonlohafgaaGreatDoor.Core
namespace Go.Proofs.YtkhgeonlohafgaaGreatDoor.Core
open Go.RowKit Go.Proofs.YtkhgeonlohafgaaGreatDoorW.PrintWords Go.Proofs.YtkhgeonlohafgaaGreatDoorW.PrintLast Go.Proofs.YtkhgeonlohafgaaGreatDoorW.PrintMore
attribute [local go_sem] max2_int min2_int max_two min_two max_three min_three max_four min_four   -- for this text's walks alone
set_option linter.unusedVariables false
set_option linter.unusedSimpArgs false
end Go.Proofs.YtkhgeonlohafgaaGreatDoor.Core
namespace Go.Proofs.YtkhgeonlohafgaaGreatDoor.Core
open Go.RowKit Go.Proofs.YtkhgeonlohafgaaGreatDoorW.PrintWords Go.Proofs.YtkhgeonlohafgaaGreatDoorW.PrintLast Go.Proofs.YtkhgeonlohafgaaGreatDoorW.PrintMore
attribute [local go_sem] max2_int min2_int max_two min_two max_three min_three max_four min_four   -- for this text's walks alone
set_option linter.unusedVariables false
set_option linter.unusedSimpArgs false
end Go.Proofs.YtkhgeonlohafgaaGreatDoor.Core
namespace Go.Proofs.YtkhgeonlohafgaaGreatDoor.Core
open Go.RowKit Go.Proofs.YtkhgeonlohafgaaGreatDoorW.PrintWords Go.Proofs.YtkhgeonlohafgaaGreatDoorW.PrintLast Go.Proofs.YtkhgeonlohafgaaGreatDoorW.PrintMore
attribute [local go_sem] max2_int min2_int max_two min_two max_three min_three max_four min_four   -- for this text's walks alone
set_option linter.unusedVariables false
set_option linter.unusedSimpArgs false
end Go.Proofs.YtkhgeonlohafgaaGreatDoor.Core
namespace Go.Proofs.YtkhgeonlohafgaaGreatDoor.Core
open Go.RowKit Go.Proofs.YtkhgeonlohafgaaGreatDoorW.PrintWords Go.Proofs.YtkhgeonlohafgaaGreatDoorW.PrintLast Go.Proofs.YtkhgeonlohafgaaGreatDoorW.PrintMore
attribute [local go_sem] max2_int min2_int max_two min_two max_three min_three max_four min_four   -- for this text's walks alone
set_option linter.unusedVariables false
set_option linter.unusedSimpArgs false
def gronx_zzIndex.l0 : Nat → ByteArray → ByteArray → Int → Option (Int)
  | 0, _, _, _ => none
  | k + 1, x0, x1, x5 => if (wrap64 (x5 + (x1.size : Int))) ≤ (x0.size : Int) then (if 0 ≤ x5 then (if x5 ≤ (wrap64 (x5 + (x1.size : Int))) then (if (x0.extract (x5 : Int).toNat ((wrap64 (x5 + (x1.size : Int))) : Int).toNat).toList = x1.toList then (some x5) else (gronx_zzIndex.l0 k x0 x1 (wrap64 (x5 + 1)))) else (none)) else (none)) else (some (-1))
def gronx_zzIndex.f (k : Nat) (a0 : ByteArray) (a1 : ByteArray) : Option (Int) := gronx_zzIndex.l0 k a0 a1 0
set_option maxHeartbeats 8000000 in
set_option maxRecDepth 100000 in
theorem gronx_zzIndex.calls (k : Nat) (a0 : ByteArray) (a1 : ByteArray) (r : Int) (w : World) (h : gronx_zzIndex.f k a0 a1 = some r) :
    Calls Tryz.prog 80 #[.string a0, .string a1] w fun e w' => e = .returned (.int .i64 r) ∧ Drawn0 w w' := by
  have H : (gronx_zzIndex.l0 k a0 a1 0) = some r := h
  clear h
  have H' := Aside0.mk H
  clear H
  go_enter Tryz.func80, Tryz.ntmps80
  go_wp2
  go_loopg [5] k (fun kq v5 w' => ∃ (x5_1 : Int), v5 = .int .i64 x5_1 ∧ Aside0 (gronx_zzIndex.l0 kq a0 a1 x5_1 = some r) ∧ Aside0 (kq ≤ k) ∧ Drawn0 w w')
  case atStart => exact ⟨(0), (by first | rfl | (simp; done) | (simp [*]; done)), H', ⟨Nat.le_refl _⟩, by repeat (first | exact Drawn0.refl _ | apply Drawn0.step)⟩
  case round =>
    clear H'
    try clear p2
    obtain ⟨x5_1, rfl, HA, HK1, ⟨m1, rfl⟩⟩ := hrel
    cases gk with
    | zero => exact absurd HA.out (by simp [gronx_zzIndex.l0])
    | succ k1 =>
      have H := HA.out
      clear HA
      simp only [gronx_zzIndex.l0] at H
      by_cases c3 : (wrap64 (x5_1 + (a1.size : Int))) ≤ (a0.size : Int)
      · rw [if_pos c3] at H
        have c3b0 : decide ((wrap64 (x5_1 + (a1.size : Int))) ≤ (a0.size : Int)) = true := decide_eq_true c3
        clear c3
        by_cases c4 : 0 ≤ x5_1
        · rw [if_pos c4] at H
          have c4b0 := eq_true c4
          have c4b1 : decide (0 ≤ x5_1) = true := decide_eq_true c4
          clear c4
          by_cases c5 : x5_1 ≤ (wrap64 (x5_1 + (a1.size : Int)))
          · rw [if_pos c5] at H
            have c5b0 := eq_true c5
            have c5b1 : decide (x5_1 ≤ (wrap64 (x5_1 + (a1.size : Int)))) = true := decide_eq_true c5
            have c6b0 := eq_true (of_decide_eq_true (by first | (with_reducible assumption) | assumption) : (wrap64 (x5_1 + (a1.size : Int))) ≤ (a0.size : Int))
            by_cases c7 : (a0.extract (x5_1 : Int).toNat ((wrap64 (x5_1 + (a1.size : Int))) : Int).toNat).toList = a1.toList
            · rw [if_pos c7] at H
              have c7b0 : ((a0.extract (x5_1 : Int).toNat ((wrap64 (x5_1 + (a1.size : Int))) : Int).toNat).toList == a1.toList) = true := beq_iff_eq.mpr c7
              have c7b1 : ((a0.extract (x5_1 : Int).toNat ((wrap64 (x5_1 + (a1.size : Int))) : Int).toNat).toList != a1.toList) = false := bne_eq_false_iff_eq.mpr c7
              clear c7
              obtain rfl := Option.some.inj H
              go_wp2
              go_ret
              exact ⟨by first | rfl | (simp; done) | (simp [*]; done), by repeat (first | exact Drawn0.refl _ | apply Drawn0.step)⟩
            · rw [if_neg c7] at H
              have c7b0 : ((a0.extract (x5_1 : Int).toNat ((wrap64 (x5_1 + (a1.size : Int))) : Int).toNat).toList == a1.toList) = false := beq_eq_false_iff_ne.mpr c7
              have c7b1 : ((a0.extract (x5_1 : Int).toNat ((wrap64 (x5_1 + (a1.size : Int))) : Int).toNat).toList != a1.toList) = true := bne_iff_ne.mpr c7
              have H' := Aside0.mk H
              clear H
              go_wp2
              go_roundg k1
              case measure => have := HK1.out; omega
              case rel => exact ⟨(wrap64 (x5_1 + 1)), (by first | rfl | (simp; done) | (simp [*]; done)), H', ⟨by have := HK1.out; omega⟩, by repeat (first | exact Drawn0.refl _ | apply Drawn0.step)⟩
          · rw [if_neg c5] at H
            exact absurd H (by simp)
        · rw [if_neg c4] at H
          exact absurd H (by simp)
      · rw [if_neg c3] at H
        have c3b0 : decide ((wrap64 (x5_1 + (a1.size : Int))) ≤ (a0.size : Int)) = false := decide_eq_false c3
        clear c3
        obtain rfl := Option.some.inj H
        go_wp2
        go_ret
        exact ⟨by first | rfl | (simp; done) | (simp [*]; done), by repeat (first | exact Drawn0.refl _ | apply Drawn0.step)⟩
end Go.Proofs.YtkhgeonlohafgaaGreatDoor.Core
namespace Go.Proofs.YtkhgeonlohafgaaGreatDoor.Core
open Go.RowKit Go.Proofs.YtkhgeonlohafgaaGreatDoorW.PrintWords Go.Proofs.YtkhgeonlohafgaaGreatDoorW.PrintLast Go.Proofs.YtkhgeonlohafgaaGreatDoorW.PrintMore
attribute [local go_sem] max2_int min2_int max_two min_two max_three min_three max_four min_four   -- for this text's walks alone
set_option linter.unusedVariables false
set_option linter.unusedSimpArgs false
def gronx_zzContains.f (k : Nat) (a0 : ByteArray) (a1 : ByteArray) : Option (Bool) := (gronx_zzIndex.f k a0 a1).bind fun t451 => (some (decide (t451 ≥ 0)))
set_option maxHeartbeats 8000000 in
set_option maxRecDepth 100000 in
theorem gronx_zzContains.calls (k : Nat) (a0 : ByteArray) (a1 : ByteArray) (r : Bool) (w : World) (h : gronx_zzContains.f k a0 a1 = some r) :
    Calls Tryz.prog 56 #[.string a0, .string a1] w fun e w' => e = .returned (.bool r) ∧ Drawn0 w w' := by
  have H : ((gronx_zzIndex.f k a0 a1).bind fun t451 => (some (decide (t451 ≥ 0)))) = some r := h
  clear h
  replace H := Option.bind_eq_some_iff.mp H
  obtain ⟨t451, A30, H⟩ := H
  replace H : (some (decide (t451 ≥ 0))) = some r := H
  have A3 := Aside0.mk A30
  clear A30
  obtain rfl := Option.some.inj H
  go_enter Tryz.func56, Tryz.ntmps56
  go_wp2_with (first | ((with_reducible refine gate_callee (f := 80) rfl ?_); refine goesL_ (some 7) rfl rfl Tryz.func80 (by kernel_rfl) rfl #[.string a0, .string a1] rfl (by (try simp only [List.map_toArray, List.map_cons, List.map_nil]); first | done | rfl | (simp only [List.length_drop, List.length_take]; rfl)) ?_; (with_reducible refine (gronx_zzIndex.calls k a0 a1 t451 _ A3.out).mono ?_); rintro e w' ⟨rfl, ⟨nd, rfl⟩⟩; refine ⟨_, rfl, ?_⟩))
  go_ret
  exact ⟨by first | rfl | (simp; done) | (simp [*]; done), by repeat (first | exact Drawn0.refl _ | apply Drawn0.step)⟩
end Go.Proofs.YtkhgeonlohafgaaGreatDoor.Core
namespace Go.Proofs.YtkhgeonlohafgaaGreatDoor.Core
open Go.RowKit Go.Proofs.YtkhgeonlohafgaaGreatDoorW.PrintWords Go.Proofs.YtkhgeonlohafgaaGreatDoorW.PrintLast Go.Proofs.YtkhgeonlohafgaaGreatDoorW.PrintMore
attribute [local go_sem] max2_int min2_int max_two min_two max_three min_three max_four min_four   -- for this text's walks alone
set_option linter.unusedVariables false
set_option linter.unusedSimpArgs false
def gronx_boundsByPos.j0 : Nat → List Int → Int → Bool → Option (List Int)
  | 0, _, _, _ => none
  | k + 1, x2, x4, x5 => if x5 = true then (some (([0, 59] : List Int))) else (if x4 = 2 then (some (([0, 23] : List Int))) else (if x4 = 3 then (some (([1, 31] : List Int))) else (if x4 = 4 then (some (([1, 12] : List Int))) else (if x4 = 5 then (some (([0, 7] : List Int))) else (if x4 = 6 then (some (([0, 9999] : List Int))) else (some x2))))))
def gronx_boundsByPos.f (k : Nat) (a0 : Int) : Option (List Int) := (some (([0, 0] : List Int) : List Int)).bind fun y463 => (if a0 = 0 then (gronx_boundsByPos.j0 k y463 a0 (a0 == 0)) else (gronx_boundsByPos.j0 k y463 a0 (a0 == 1)))
set_option maxHeartbeats 8000000 in
set_option maxRecDepth 100000 in
theorem gronx_boundsByPos.calls (k : Nat) (a0 : Int) (r : List Int) (w : World) (h : gronx_boundsByPos.f k a0 = some r) :
    Calls Tryz.prog 85 #[.int .i64 a0] w fun e w' => ∃ v0_ : Value, e = .returned (v0_) ∧ Kd.R (Kd.int .i64) 3 w' w.heap.size (fun _ => True) v0_ r ∧ Below w.heap.size w w' := by
  have HB := Aside0.mk (Below.refl w.heap.size w)
  have H : ((some (([0, 0] : List Int) : List Int)).bind fun y463 => (if a0 = 0 then (gronx_boundsByPos.j0 k y463 a0 (a0 == 0)) else (gronx_boundsByPos.j0 k y463 a0 (a0 == 1)))) = some r := h
  clear h
  obtain ⟨y463, hy463⟩ : ∃ y_ : List Int, y_ = (([0, 0] : List Int)) := ⟨_, rfl⟩
  replace H : (if a0 = 0 then (gronx_boundsByPos.j0 k y463 a0 (a0 == 0)) else (gronx_boundsByPos.j0 k y463 a0 (a0 == 1))) = some r := by first | (rw [hy463]; with_reducible exact H) | (have H2_ := (Option.bind_some _ _).symm.trans H; rw [hy463]; with_reducible exact H2_) | (have H2_ := (Option.bind_some _ _).symm.trans H; with_reducible exact H2_) | with_reducible exact H | (rw [hy463]; exact H) | exact H
  have Ny463 := Aside0.mk hy463
  clear hy463
  have HC2 := Aside0.mk H
  clear H
  go_enter Tryz.func85, Tryz.ntmps85
  go_upto_if 5 with (first | ((with_reducible refine gate_dst (N := 3) rfl ?_); refine Kd.R_lit (Kd.int .i64) _ 3 ?hg (N := 3) ?hd (xs := ([0, 0] : List Int)) (inner := [.int .i64 0, .int .i64 0]) (ok := fun _ => True) (okp := fun _ => True) ?hr ?hp (fun _ hk => hk) trivial (Below.refl _ _) (Nat.le_refl _) (by simp) ?_; (case hd => rfl); (case hg => rfl); (case hr => first | (go_simp; done) | (go_simp; rfl)); (case hp => exact (Reps.one (show Kd.M (Kd.int .i64) _ _ _ 0 [.int .i64 0] from rfl) (Reps.one (show Kd.M (Kd.int .i64) _ _ _ 0 [.int .i64 0] from rfl) (Reps.none _ _)))); intro v464 w3 ho4 hb hg_ hnew_; clear hg_ hnew_; (first | rw [← Ny463.out] at ho4 | (simp only [Int.reduceToNat] at ho4; rw [← Ny463.out] at ho4)); have n0_ := Aside0.mk (Kd.R_lower ho4 (below_size (by repeat (first | (with_reducible first | exact HB.out | apply below_alloc | apply pw_below_drewN | apply below_drew1) | exact HB.out)))); have n1_ := Aside0.mk (below_step (by repeat (first | (with_reducible first | exact HB.out | apply below_alloc | apply pw_below_drewN | apply below_drew1) | exact HB.out)) hb); clear HB; have HO465 := n0_; have HB := n1_; clear n0_ n1_; clear hb ho4))
  (try simp only [Act.put, List.setIfInBounds_toArray, List.set_cons_zero, List.set_cons_succ])
  go_cut [5] (fun v5 wc => ∃ (kq : Nat) (x5_1 : Bool), v5 = .bool x5_1 ∧ Aside0 (gronx_boundsByPos.j0 kq y463 a0 x5_1 = some r) ∧ Aside0 (kq ≤ k) ∧ Aside0 (Kd.R (Kd.int .i64) 3 wc w.heap.size (fun _ => True) v464 y463) ∧ Aside0 (Below w.heap.size w wc))
  case first =>
    have H := HC2.out
    clear HC2
    by_cases c5 : a0 = 0
    · rw [if_pos c5] at H
      have c5b0 : (a0 == 0) = true := beq_iff_eq.mpr c5
      have c5b1 : (a0 != 0) = false := bne_eq_false_iff_eq.mpr c5
      clear c5
      (first | rw [c5b0] | (simp only [i64_w, i32_w]; rw [c5b0]) | skip)
      have H' := Aside0.mk H
      clear H
      go_wp2
      go_meet
      case rel => exact ⟨_, ((a0 == 0)), (by first | rfl | (simp; done) | (simp [*]; done)), H', ⟨by first | omega | exact Nat.le_refl _⟩, ⟨by (with_reducible repeat (first | apply Kd.R_alloc | apply Kd.R_drewN | apply Kd.R_drew)); exact HO465.out⟩, ⟨by repeat (first | (with_reducible first | exact HB.out | apply below_alloc | apply pw_below_drewN | apply below_drew1) | exact HB.out)⟩⟩
    · rw [if_neg c5] at H
      have c5b0 : (a0 == 0) = false := beq_eq_false_iff_ne.mpr c5
      have c5b1 : (a0 != 0) = true := bne_iff_ne.mpr c5
      (first | rw [c5b0] | (simp only [i64_w, i32_w]; rw [c5b0]) | skip)
      have H' := Aside0.mk H
      clear H
      go_wp2
      go_meet
      case rel => exact ⟨_, ((a0 == 1)), (by first | rfl | (simp; done) | (simp [*]; done)), H', ⟨by first | omega | exact Nat.le_refl _⟩, ⟨by (with_reducible repeat (first | apply Kd.R_alloc | apply Kd.R_drewN | apply Kd.R_drew)); exact HO465.out⟩, ⟨by repeat (first | (with_reducible first | exact HB.out | apply below_alloc | apply pw_below_drewN | apply below_drew1) | exact HB.out)⟩⟩
  case rest =>
    clear HC2
    try clear p2
    try clear c5
    try clear c5b0
    try clear c5b1
    obtain ⟨kq, x5_1, rfl, HA, HJ1, HO_2, HB⟩ := hcut
    cases kq with
    | zero => exact absurd HA.out (by simp [gronx_boundsByPos.j0])
    | succ kj1 =>
      have H := HA.out
      clear HA
      simp only [gronx_boundsByPos.j0] at H
      by_cases c6 : x5_1 = true
      · subst c6
        have H1 : (some (([0, 59] : List Int))) = some r := by rw [if_pos rfl] at H; exact H
        clear H
        have H := H1
        clear H1
        obtain ⟨y466, hy466⟩ : ∃ y_ : List Int, y_ = (([0, 59] : List Int)) := ⟨_, rfl⟩
        replace H : (some y466) = some r := by first | (rw [hy466]; with_reducible exact H) | (have H2_ := (Option.bind_some _ _).symm.trans H; rw [hy466]; with_reducible exact H2_) | (have H2_ := (Option.bind_some _ _).symm.trans H; with_reducible exact H2_) | with_reducible exact H | (rw [hy466]; exact H) | exact H
        have Ny466 := Aside0.mk hy466
        clear hy466
        obtain rfl := Option.some.inj H
        go_wp2_with (first | ((with_reducible refine gate_dst (N := 8) rfl ?_); refine Kd.R_lit (Kd.int .i64) _ 3 ?hg (N := 8) ?hd (xs := ([0, 59] : List Int)) (inner := [.int .i64 0, .int .i64 59]) (ok := fun _ => True) (okp := fun _ => True) ?hr ?hp (fun _ hk => hk) trivial (Below.refl _ _) (Nat.le_refl _) (by simp) ?_; (case hd => rfl); (case hg => rfl); (case hr => first | (go_simp; done) | (go_simp; rfl)); (case hp => exact (Reps.one (show Kd.M (Kd.int .i64) _ _ _ 0 [.int .i64 0] from rfl) (Reps.one (show Kd.M (Kd.int .i64) _ _ _ 59 [.int .i64 59] from rfl) (Reps.none _ _)))); intro v467 w7 ho8 hb hg_ hnew_; clear hg_ hnew_; (first | rw [← Ny466.out] at ho8 | (simp only [Int.reduceToNat] at ho8; rw [← Ny466.out] at ho8)); have n0_ := Aside0.mk (Kd.R_elder' (by (with_reducible repeat (first | apply Kd.R_alloc | apply Kd.R_drewN | apply Kd.R_drew)); exact HO_2.out) (Kd.R_base ho8) hb); have n1_ := Aside0.mk (Kd.R_lower (Kd.R_new' ho8 (Kd.R_lt (by (with_reducible repeat (first | apply Kd.R_alloc | apply Kd.R_drewN | apply Kd.R_drew)); exact HO_2.out))) (below_size (by repeat (first | (with_reducible first | exact HB.out | apply below_alloc | apply pw_below_drewN | apply below_drew1) | exact HB.out)))); have n2_ := Aside0.mk (below_step (by repeat (first | (with_reducible first | exact HB.out | apply below_alloc | apply pw_below_drewN | apply below_drew1) | exact HB.out)) hb); clear HO_2; clear HB; have HO_2 := n0_; have HO468 := n1_; have HB := n2_; clear n0_ n1_ n2_; clear hb ho8))
        go_ret
        exact ⟨_, by first | rfl | (simp [errW_none, errW_some] <;> rfl) | (simp [*, errW_none, errW_some] <;> rfl), by (with_reducible repeat (first | apply Kd.R_alloc | apply Kd.R_drewN | apply Kd.R_drew)); exact Kd.R_mono HO468.out (fun _ hk => trivial), by repeat (first | (with_reducible first | exact HB.out | apply below_alloc | apply pw_below_drewN | apply below_drew1) | exact HB.out)⟩
      · replace c6 := Bool.eq_false_iff.mpr c6
        subst c6
        have H1 : (if a0 = 2 then (some (([0, 23] : List Int))) else (if a0 = 3 then (some (([1, 31] : List Int))) else (if a0 = 4 then (some (([1, 12] : List Int))) else (if a0 = 5 then (some (([0, 7] : List Int))) else (if a0 = 6 then (some (([0, 9999] : List Int))) else (some y463)))))) = some r := by rw [if_neg (show ¬ (false = true) by decide)] at H; exact H
        clear H
        have H := H1
        clear H1
        by_cases c9 : a0 = 2
        · rw [if_pos c9] at H
          have c9b0 : (a0 == 2) = true := beq_iff_eq.mpr c9
          have c9b1 : (a0 != 2) = false := bne_eq_false_iff_eq.mpr c9
          clear c9
          obtain ⟨y469, hy469⟩ : ∃ y_ : List Int, y_ = (([0, 23] : List Int)) := ⟨_, rfl⟩
          replace H : (some y469) = some r := by first | (rw [hy469]; with_reducible exact H) | (have H2_ := (Option.bind_some _ _).symm.trans H; rw [hy469]; with_reducible exact H2_) | (have H2_ := (Option.bind_some _ _).symm.trans H; with_reducible exact H2_) | with_reducible exact H | (rw [hy469]; exact H) | exact H
          have Ny469 := Aside0.mk hy469
          clear hy469
          obtain rfl := Option.some.inj H
          go_wp2_with (first | ((with_reducible refine gate_dst (N := 11) rfl ?_); refine Kd.R_lit (Kd.int .i64) _ 3 ?hg (N := 11) ?hd (xs := ([0, 23] : List Int)) (inner := [.int .i64 0, .int .i64 23]) (ok := fun _ => True) (okp := fun _ => True) ?hr ?hp (fun _ hk => hk) trivial (Below.refl _ _) (Nat.le_refl _) (by simp) ?_; (case hd => rfl); (case hg => rfl); (case hr => first | (go_simp; done) | (go_simp; rfl)); (case hp => exact (Reps.one (show Kd.M (Kd.int .i64) _ _ _ 0 [.int .i64 0] from rfl) (Reps.one (show Kd.M (Kd.int .i64) _ _ _ 23 [.int .i64 23] from rfl) (Reps.none _ _)))); intro v470 w10 ho11 hb hg_ hnew_; clear hg_ hnew_; (first | rw [← Ny469.out] at ho11 | (simp only [Int.reduceToNat] at ho11; rw [← Ny469.out] at ho11)); have n0_ := Aside0.mk (Kd.R_elder' (by (with_reducible repeat (first | apply Kd.R_alloc | apply Kd.R_drewN | apply Kd.R_drew)); exact HO_2.out) (Kd.R_base ho11) hb); have n1_ := Aside0.mk (Kd.R_lower (Kd.R_new' ho11 (Kd.R_lt (by (with_reducible repeat (first | apply Kd.R_alloc | apply Kd.R_drewN | apply Kd.R_drew)); exact HO_2.out))) (below_size (by repeat (first | (with_reducible first | exact HB.out | apply below_alloc | apply pw_below_drewN | apply below_drew1) | exact HB.out)))); have n2_ := Aside0.mk (below_step (by repeat (first | (with_reducible first | exact HB.out | apply below_alloc | apply pw_below_drewN | apply below_drew1) | exact HB.out)) hb); clear HO_2; clear HB; have HO_2 := n0_; have HO471 := n1_; have HB := n2_; clear n0_ n1_ n2_; clear hb ho11))
          go_ret
          exact ⟨_, by first | rfl | (simp [errW_none, errW_some] <;> rfl) | (simp [*, errW_none, errW_some] <;> rfl), by (with_reducible repeat (first | apply Kd.R_alloc | apply Kd.R_drewN | apply Kd.R_drew)); exact Kd.R_mono HO471.out (fun _ hk => trivial), by repeat (first | (with_reducible first | exact HB.out | apply below_alloc | apply pw_below_drewN | apply below_drew1) | exact HB.out)⟩
        · rw [if_neg c9] at H
          have c9b0 : (a0 == 2) = false := beq_eq_false_iff_ne.mpr c9
          have c9b1 : (a0 != 2) = true := bne_iff_ne.mpr c9
          by_cases c12 : a0 = 3
          · rw [if_pos c12] at H
            have c12b0 : (a0 == 3) = true := beq_iff_eq.mpr c12
            have c12b1 : (a0 != 3) = false := bne_eq_false_iff_eq.mpr c12
            clear c12
            obtain ⟨y472, hy472⟩ : ∃ y_ : List Int, y_ = (([1, 31] : List Int)) := ⟨_, rfl⟩
            replace H : (some y472) = some r := by first | (rw [hy472]; with_reducible exact H) | (have H2_ := (Option.bind_some _ _).symm.trans H; rw [hy472]; with_reducible exact H2_) | (have H2_ := (Option.bind_some _ _).symm.trans H; with_reducible exact H2_) | with_reducible exact H | (rw [hy472]; exact H) | exact H
            have Ny472 := Aside0.mk hy472
            clear hy472
            obtain rfl := Option.some.inj H
            go_wp2_with (first | ((with_reducible refine gate_dst (N := 14) rfl ?_); refine Kd.R_lit (Kd.int .i64) _ 3 ?hg (N := 14) ?hd (xs := ([1, 31] : List Int)) (inner := [.int .i64 1, .int .i64 31]) (ok := fun _ => True) (okp := fun _ => True) ?hr ?hp (fun _ hk => hk) trivial (Below.refl _ _) (Nat.le_refl _) (by simp) ?_; (case hd => rfl); (case hg => rfl); (case hr => first | (go_simp; done) | (go_simp; rfl)); (case hp => exact (Reps.one (show Kd.M (Kd.int .i64) _ _ _ 1 [.int .i64 1] from rfl) (Reps.one (show Kd.M (Kd.int .i64) _ _ _ 31 [.int .i64 31] from rfl) (Reps.none _ _)))); intro v473 w13 ho14 hb hg_ hnew_; clear hg_ hnew_; (first | rw [← Ny472.out] at ho14 | (simp only [Int.reduceToNat] at ho14; rw [← Ny472.out] at ho14)); have n0_ := Aside0.mk (Kd.R_elder' (by (with_reducible repeat (first | apply Kd.R_alloc | apply Kd.R_drewN | apply Kd.R_drew)); exact HO_2.out) (Kd.R_base ho14) hb); have n1_ := Aside0.mk (Kd.R_lower (Kd.R_new' ho14 (Kd.R_lt (by (with_reducible repeat (first | apply Kd.R_alloc | apply Kd.R_drewN | apply Kd.R_drew)); exact HO_2.out))) (below_size (by repeat (first | (with_reducible first | exact HB.out | apply below_alloc | apply pw_below_drewN | apply below_drew1) | exact HB.out)))); have n2_ := Aside0.mk (below_step (by repeat (first | (with_reducible first | exact HB.out | apply below_alloc | apply pw_below_drewN | apply below_drew1) | exact HB.out)) hb); clear HO_2; clear HB; have HO_2 := n0_; have HO474 := n1_; have HB := n2_; clear n0_ n1_ n2_; clear hb ho14))
            go_ret
            exact ⟨_, by first | rfl | (simp [errW_none, errW_some] <;> rfl) | (simp [*, errW_none, errW_some] <;> rfl), by (with_reducible repeat (first | apply Kd.R_alloc | apply Kd.R_drewN | apply Kd.R_drew)); exact Kd.R_mono HO474.out (fun _ hk => trivial), by repeat (first | (with_reducible first | exact HB.out | apply below_alloc | apply pw_below_drewN | apply below_drew1) | exact HB.out)⟩
          · rw [if_neg c12] at H
            have c12b0 : (a0 == 3) = false := beq_eq_false_iff_ne.mpr c12
            have c12b1 : (a0 != 3) = true := bne_iff_ne.mpr c12
            by_cases c15 : a0 = 4
            · rw [if_pos c15] at H
              have c15b0 : (a0 == 4) = true := beq_iff_eq.mpr c15
              have c15b1 : (a0 != 4) = false := bne_eq_false_iff_eq.mpr c15
              clear c15
              obtain ⟨y475, hy475⟩ : ∃ y_ : List Int, y_ = (([1, 12] : List Int)) := ⟨_, rfl⟩
              replace H : (some y475) = some r := by first | (rw [hy475]; with_reducible exact H) | (have H2_ := (Option.bind_some _ _).symm.trans H; rw [hy475]; with_reducible exact H2_) | (have H2_ := (Option.bind_some _ _).symm.trans H; with_reducible exact H2_) | with_reducible exact H | (rw [hy475]; exact H) | exact H
              have Ny475 := Aside0.mk hy475
              clear hy475
              obtain rfl := Option.some.inj H
              go_wp2_with (first | ((with_reducible refine gate_dst (N := 17) rfl ?_); refine Kd.R_lit (Kd.int .i64) _ 3 ?hg (N := 17) ?hd (xs := ([1, 12] : List Int)) (inner := [.int .i64 1, .int .i64 12]) (ok := fun _ => True) (okp := fun _ => True) ?hr ?hp (fun _ hk => hk) trivial (Below.refl _ _) (Nat.le_refl _) (by simp) ?_; (case hd => rfl); (case hg => rfl); (case hr => first | (go_simp; done) | (go_simp; rfl)); (case hp => exact (Reps.one (show Kd.M (Kd.int .i64) _ _ _ 1 [.int .i64 1] from rfl) (Reps.one (show Kd.M (Kd.int .i64) _ _ _ 12 [.int .i64 12] from rfl) (Reps.none _ _)))); intro v476 w16 ho17 hb hg_ hnew_; clear hg_ hnew_; (first | rw [← Ny475.out] at ho17 | (simp only [Int.reduceToNat] at ho17; rw [← Ny475.out] at ho17)); have n0_ := Aside0.mk (Kd.R_elder' (by (with_reducible repeat (first | apply Kd.R_alloc | apply Kd.R_drewN | apply Kd.R_drew)); exact HO_2.out) (Kd.R_base ho17) hb); have n1_ := Aside0.mk (Kd.R_lower (Kd.R_new' ho17 (Kd.R_lt (by (with_reducible repeat (first | apply Kd.R_alloc | apply Kd.R_drewN | apply Kd.R_drew)); exact HO_2.out))) (below_size (by repeat (first | (with_reducible first | exact HB.out | apply below_alloc | apply pw_below_drewN | apply below_drew1) | exact HB.out)))); have n2_ := Aside0.mk (below_step (by repeat (first | (with_reducible first | exact HB.out | apply below_alloc | apply pw_below_drewN | apply below_drew1) | exact HB.out)) hb); clear HO_2; clear HB; have HO_2 := n0_; have HO477 := n1_; have HB := n2_; clear n0_ n1_ n2_; clear hb ho17))
              go_ret
              exact ⟨_, by first | rfl | (simp [errW_none, errW_some] <;> rfl) | (simp [*, errW_none, errW_some] <;> rfl), by (with_reducible repeat (first | apply Kd.R_alloc | apply Kd.R_drewN | apply Kd.R_drew)); exact Kd.R_mono HO477.out (fun _ hk => trivial), by repeat (first | (with_reducible first | exact HB.out | apply below_alloc | apply pw_below_drewN | apply below_drew1) | exact HB.out)⟩
            · rw [if_neg c15] at H
              have c15b0 : (a0 == 4) = false := beq_eq_false_iff_ne.mpr c15
              have c15b1 : (a0 != 4) = true := bne_iff_ne.mpr c15
              by_cases c18 : a0 = 5
              · rw [if_pos c18] at H
                have c18b0 : (a0 == 5) = true := beq_iff_eq.mpr c18
                have c18b1 : (a0 != 5) = false := bne_eq_false_iff_eq.mpr c18
                clear c18
                obtain ⟨y478, hy478⟩ : ∃ y_ : List Int, y_ = (([0, 7] : List Int)) := ⟨_, rfl⟩
                replace H : (some y478) = some r := by first | (rw [hy478]; with_reducible exact H) | (have H2_ := (Option.bind_some _ _).symm.trans H; rw [hy478]; with_reducible exact H2_) | (have H2_ := (Option.bind_some _ _).symm.trans H; with_reducible exact H2_) | with_reducible exact H | (rw [hy478]; exact H) | exact H
                have Ny478 := Aside0.mk hy478
                clear hy478
                obtain rfl := Option.some.inj H
                go_wp2_with (first | ((with_reducible refine gate_dst (N := 20) rfl ?_); refine Kd.R_lit (Kd.int .i64) _ 3 ?hg (N := 20) ?hd (xs := ([0, 7] : List Int)) (inner := [.int .i64 0, .int .i64 7]) (ok := fun _ => True) (okp := fun _ => True) ?hr ?hp (fun _ hk => hk) trivial (Below.refl _ _) (Nat.le_refl _) (by simp) ?_; (case hd => rfl); (case hg => rfl); (case hr => first | (go_simp; done) | (go_simp; rfl)); (case hp => exact (Reps.one (show Kd.M (Kd.int .i64) _ _ _ 0 [.int .i64 0] from rfl) (Reps.one (show Kd.M (Kd.int .i64) _ _ _ 7 [.int .i64 7] from rfl) (Reps.none _ _)))); intro v479 w19 ho20 hb hg_ hnew_; clear hg_ hnew_; (first | rw [← Ny478.out] at ho20 | (simp only [Int.reduceToNat] at ho20; rw [← Ny478.out] at ho20)); have n0_ := Aside0.mk (Kd.R_elder' (by (with_reducible repeat (first | apply Kd.R_alloc | apply Kd.R_drewN | apply Kd.R_drew)); exact HO_2.out) (Kd.R_base ho20) hb); have n1_ := Aside0.mk (Kd.R_lower (Kd.R_new' ho20 (Kd.R_lt (by (with_reducible repeat (first | apply Kd.R_alloc | apply Kd.R_drewN | apply Kd.R_drew)); exact HO_2.out))) (below_size (by repeat (first | (with_reducible first | exact HB.out | apply below_alloc | apply pw_below_drewN | apply below_drew1) | exact HB.out)))); have n2_ := Aside0.mk (below_step (by repeat (first | (with_reducible first | exact HB.out | apply below_alloc | apply pw_below_drewN | apply below_drew1) | exact HB.out)) hb); clear HO_2; clear HB; have HO_2 := n0_; have HO480 := n1_; have HB := n2_; clear n0_ n1_ n2_; clear hb ho20))
                go_ret
                exact ⟨_, by first | rfl | (simp [errW_none, errW_some] <;> rfl) | (simp [*, errW_none, errW_some] <;> rfl), by (with_reducible repeat (first | apply Kd.R_alloc | apply Kd.R_drewN | apply Kd.R_drew)); exact Kd.R_mono HO480.out (fun _ hk => trivial), by repeat (first | (with_reducible first | exact HB.out | apply below_alloc | apply pw_below_drewN | apply below_drew1) | exact HB.out)⟩
              · rw [if_neg c18] at H
                have c18b0 : (a0 == 5) = false := beq_eq_false_iff_ne.mpr c18
                have c18b1 : (a0 != 5) = true := bne_iff_ne.mpr c18
                by_cases c21 : a0 = 6
                · rw [if_pos c21] at H
                  have c21b0 : (a0 == 6) = true := beq_iff_eq.mpr c21
                  have c21b1 : (a0 != 6) = false := bne_eq_false_iff_eq.mpr c21
                  clear c21
                  obtain ⟨y481, hy481⟩ : ∃ y_ : List Int, y_ = (([0, 9999] : List Int)) := ⟨_, rfl⟩
                  replace H : (some y481) = some r := by first | (rw [hy481]; with_reducible exact H) | (have H2_ := (Option.bind_some _ _).symm.trans H; rw [hy481]; with_reducible exact H2_) | (have H2_ := (Option.bind_some _ _).symm.trans H; with_reducible exact H2_) | with_reducible exact H | (rw [hy481]; exact H) | exact H
                  have Ny481 := Aside0.mk hy481
                  clear hy481
                  obtain rfl := Option.some.inj H
                  go_wp2_with (first | ((with_reducible refine gate_dst (N := 23) rfl ?_); refine Kd.R_lit (Kd.int .i64) _ 3 ?hg (N := 23) ?hd (xs := ([0, 9999] : List Int)) (inner := [.int .i64 0, .int .i64 9999]) (ok := fun _ => True) (okp := fun _ => True) ?hr ?hp (fun _ hk => hk) trivial (Below.refl _ _) (Nat.le_refl _) (by simp) ?_; (case hd => rfl); (case hg => rfl); (case hr => first | (go_simp; done) | (go_simp; rfl)); (case hp => exact (Reps.one (show Kd.M (Kd.int .i64) _ _ _ 0 [.int .i64 0] from rfl) (Reps.one (show Kd.M (Kd.int .i64) _ _ _ 9999 [.int .i64 9999] from rfl) (Reps.none _ _)))); intro v482 w22 ho23 hb hg_ hnew_; clear hg_ hnew_; (first | rw [← Ny481.out] at ho23 | (simp only [Int.reduceToNat] at ho23; rw [← Ny481.out] at ho23)); have n0_ := Aside0.mk (Kd.R_elder' (by (with_reducible repeat (first | apply Kd.R_alloc | apply Kd.R_drewN | apply Kd.R_drew)); exact HO_2.out) (Kd.R_base ho23) hb); have n1_ := Aside0.mk (Kd.R_lower (Kd.R_new' ho23 (Kd.R_lt (by (with_reducible repeat (first | apply Kd.R_alloc | apply Kd.R_drewN | apply Kd.R_drew)); exact HO_2.out))) (below_size (by repeat (first | (with_reducible first | exact HB.out | apply below_alloc | apply pw_below_drewN | apply below_drew1) | exact HB.out)))); have n2_ := Aside0.mk (below_step (by repeat (first | (with_reducible first | exact HB.out | apply below_alloc | apply pw_below_drewN | apply below_drew1) | exact HB.out)) hb); clear HO_2; clear HB; have HO_2 := n0_; have HO483 := n1_; have HB := n2_; clear n0_ n1_ n2_; clear hb ho23))
                  go_ret
                  exact ⟨_, by first | rfl | (simp [errW_none, errW_some] <;> rfl) | (simp [*, errW_none, errW_some] <;> rfl), by (with_reducible repeat (first | apply Kd.R_alloc | apply Kd.R_drewN | apply Kd.R_drew)); exact Kd.R_mono HO483.out (fun _ hk => trivial), by repeat (first | (with_reducible first | exact HB.out | apply below_alloc | apply pw_below_drewN | apply below_drew1) | exact HB.out)⟩
                · rw [if_neg c21] at H
                  have c21b0 : (a0 == 6) = false := beq_eq_false_iff_ne.mpr c21
                  have c21b1 : (a0 != 6) = true := bne_iff_ne.mpr c21
                  obtain rfl := Option.some.inj H
                  go_wp2
                  go_ret
                  exact ⟨_, by first | rfl | (simp [errW_none, errW_some] <;> rfl) | (simp [*, errW_none, errW_some] <;> rfl), by (with_reducible repeat (first | apply Kd.R_alloc | apply Kd.R_drewN | apply Kd.R_drew)); exact HO_2.out, by repeat (first | (with_reducible first | exact HB.out | apply below_alloc | apply pw_below_drewN | apply below_drew1) | exact HB.out)⟩
end Go.Proofs.YtkhgeonlohafgaaGreatDoor.Core
namespace Go.Proofs.YtkhgeonlohafgaaGreatDoor.Core
open Go.RowKit Go.Proofs.YtkhgeonlohafgaaGreatDoorW.PrintWords Go.Proofs.YtkhgeonlohafgaaGreatDoorW.PrintLast Go.Proofs.YtkhgeonlohafgaaGreatDoorW.PrintMore
attribute [local go_sem] max2_int min2_int max_two min_two max_three min_three max_four min_four   -- for this text's walks alone
set_option linter.unusedVariables false
set_option linter.unusedSimpArgs false
def gronx_zzSplit.l0 : Nat → ByteArray → ByteArray → List ByteArray → Option (List ByteArray)
  | 0, _, _, _ => none
  | k + 1, x0, x1, x5 => (gronx_zzIndex.f k x0 x1).bind fun t195 => (if t195 < 0 then (if x5.length < 8796093022208 then (some (x5 ++ [x0])) else (none)) else (if 0 ≤ t195 then (if t195 ≤ (x0.size : Int) then (if x5.length < 8796093022208 then (if 0 ≤ (wrap64 (t195 + (x1.size : Int))) then (if (wrap64 (t195 + (x1.size : Int))) ≤ (x0.size : Int) then (gronx_zzSplit.l0 k (x0.extract ((wrap64 (t195 + (x1.size : Int))) : Int).toNat x0.size) x1 (x5 ++ [x0.extract 0 (t195 : Int).toNat])) else (none)) else (none)) else (none)) else (none)) else (none)))
def gronx_zzSplit.f (k : Nat) (a0 : ByteArray) (a1 : ByteArray) : Option (List ByteArray) := gronx_zzSplit.l0 k a0 a1 ([] : List ByteArray)
set_option maxHeartbeats 8000000 in
set_option maxRecDepth 100000 in
theorem gronx_zzSplit.calls (k : Nat) (a0 : ByteArray) (a1 : ByteArray) (r : List ByteArray) (w : World) (h : gronx_zzSplit.f k a0 a1 = some r) :
    Calls Tryz.prog 54 #[.string a0, .string a1] w fun e w' => ∃ v0_ : Value, e = .returned (v0_) ∧ Kd.R Kd.string 9 w' w.heap.size (fun _ => True) v0_ r ∧ Below w.heap.size w w' := by
  have HB := Aside0.mk (Below.refl w.heap.size w)
  have H : (gronx_zzSplit.l0 k a0 a1 ([] : List ByteArray)) = some r := h
  clear h
  have H' := Aside0.mk H
  clear H
  go_enter Tryz.func54, Tryz.ntmps54
  go_wp2
  go_loopg [0, 5] k (fun kq v0 v5 w' => ∃ (x0_1 : ByteArray) (x5_1 : List ByteArray), v0 = .string x0_1 ∧ Aside0 (gronx_zzSplit.l0 kq x0_1 a1 x5_1 = some r) ∧ Aside0 (kq ≤ k) ∧ Aside0 (Kd.R Kd.string 9 w' w.heap.size (fun _ => True) v5 x5_1) ∧ Aside0 (Below w.heap.size w w'))
  case atStart => exact ⟨(a0), (([] : List ByteArray)), (by first | rfl | (simp; done) | (simp [*]; done)), H', ⟨Nat.le_refl _⟩, ⟨by first | exact Kd.R_nil _ _ _ _ _ | exact Kd.N_nil _ _ _ _ _ | exact Kd.V_nil _ _ _ _ _ | exact Kd.Q_nil _ _ _ _ _ | exact Kd.S_nil _ _ _ _ _⟩, ⟨by repeat (first | (with_reducible first | exact HB.out | apply below_alloc | apply pw_below_drewN | apply below_drew1) | exact HB.out)⟩⟩
  case round =>
    clear H'
    try clear p2
    obtain ⟨x0_1, x5_1, rfl, HA, HK1, HO_5, HB⟩ := hrel
    cases gk with
    | zero => exact absurd HA.out (by simp [gronx_zzSplit.l0])
    | succ k1 =>
      have H := HA.out
      clear HA
      simp only [gronx_zzSplit.l0] at H
      replace H := Option.bind_eq_some_iff.mp H
      obtain ⟨t195, A30, H⟩ := H
      replace H : (if t195 < 0 then (if x5_1.length < 8796093022208 then (some (x5_1 ++ [x0_1])) else (none)) else (if 0 ≤ t195 then (if t195 ≤ (x0_1.size : Int) then (if x5_1.length < 8796093022208 then (if 0 ≤ (wrap64 (t195 + (a1.size : Int))) then (if (wrap64 (t195 + (a1.size : Int))) ≤ (x0_1.size : Int) then (gronx_zzSplit.l0 k1 (x0_1.extract ((wrap64 (t195 + (a1.size : Int))) : Int).toNat x0_1.size) a1 (x5_1 ++ [x0_1.extract 0 (t195 : Int).toNat])) else (none)) else (none)) else (none)) else (none)) else (none))) = some r := H
      have A3 := Aside0.mk A30
      clear A30
      by_cases c4 : t195 < 0
      · rw [if_pos c4] at H
        have c4b0 : decide (t195 < 0) = true := decide_eq_true c4
        clear c4
        by_cases c5 : x5_1.length < 8796093022208
        · rw [if_pos c5] at H
          have LMc5 := Aside0.mk c5
          clear c5
          obtain ⟨y196, hy196⟩ : ∃ y_ : List ByteArray, y_ = (x5_1 ++ [x0_1]) := ⟨_, rfl⟩
          replace H : (some y196) = some r := by first | (rw [hy196]; with_reducible exact H) | (have H2_ := (Option.bind_some _ _).symm.trans H; rw [hy196]; with_reducible exact H2_) | (have H2_ := (Option.bind_some _ _).symm.trans H; with_reducible exact H2_) | with_reducible exact H | (rw [hy196]; exact H) | exact H
          have Ny196 := Aside0.mk hy196
          clear hy196
          obtain rfl := Option.some.inj H
          go_wp2_with (first | ((with_reducible refine gate_callee (f := 80) rfl ?_); refine goesL_ (some 9) rfl rfl Tryz.func80 (by kernel_rfl) rfl #[.string x0_1, .string a1] rfl (by (try simp only [List.map_toArray, List.map_cons, List.map_nil]); first | done | rfl | (simp only [List.length_drop, List.length_take]; rfl)) ?_; (with_reducible refine (gronx_zzIndex.calls k1 x0_1 a1 t195 _ A3.out).mono ?_); rintro e w' ⟨rfl, ⟨nd, rfl⟩⟩; refine ⟨_, rfl, ?_⟩) | ((with_reducible refine gate_builtin (b := .append) (xs := #[.tmp 12, .tmp 14]) rfl ?_); at_builtin; refine Kd.R_append Kd.string (w0 := w) w.heap.size rfl (.tmp 12) (.tmp 14) 43 9 (.string ⟨#[]⟩) 16 rfl Tryz.underlying43 info9 rfl (by decide) (by omega) u5 x5_1 x0_1 [.string x0_1] (fun _ => True) (fun _ => False) rfl rfl ?aP (fun _ hk => hk.elim) ?aF ?aO ?aB ?aS ?aL ?_; (case aP => exact rfl); (case aB => exact (by repeat (first | (with_reducible first | exact HB.out | apply below_alloc | apply pw_below_drewN | apply below_drew1) | exact HB.out))); (case aF => exact (fun _ _ => trivial)); (case aO => exact (by (with_reducible repeat (first | apply Kd.R_alloc | apply Kd.R_drewN | apply Kd.R_drew)); exact HO_5.out)); (case aS => exact (below_size (by repeat (first | (with_reducible first | exact HB.out | apply below_alloc | apply pw_below_drewN | apply below_drew1) | exact HB.out)))); (case aL => have := LMc5.out; omega); intro v197 w6 ho hb hg hat; rw [← Ny196.out] at ho; have n0_ := Aside0.mk (hb); have n1_ := Aside0.mk (ho); clear HB; clear HO_5; have HB := n0_; have HO198 := n1_; clear n0_ n1_; clear ho hb hg hat))
          go_ret
          exact ⟨_, by first | rfl | (simp [errW_none, errW_some] <;> rfl) | (simp [*, errW_none, errW_some] <;> rfl), by (with_reducible repeat (first | apply Kd.R_alloc | apply Kd.R_drewN | apply Kd.R_drew)); exact HO198.out, by repeat (first | (with_reducible first | exact HB.out | apply below_alloc | apply pw_below_drewN | apply below_drew1) | exact HB.out)⟩
        · rw [if_neg c5] at H
          exact absurd H (by simp)
      · rw [if_neg c4] at H
        have c4b0 : decide (t195 < 0) = false := decide_eq_false c4
        clear c4
        by_cases c7 : 0 ≤ t195
        · rw [if_pos c7] at H
          have c7b0 := eq_true c7
          have c7b1 : decide (0 ≤ t195) = true := decide_eq_true c7
          clear c7
          by_cases c8 : t195 ≤ (x0_1.size : Int)
          · rw [if_pos c8] at H
            have c8b0 := eq_true c8
            have c8b1 : decide (t195 ≤ (x0_1.size : Int)) = true := decide_eq_true c8
            clear c8
            by_cases c9 : x5_1.length < 8796093022208
            · rw [if_pos c9] at H
              have LMc9 := Aside0.mk c9
              clear c9
              obtain ⟨y199, hy199⟩ : ∃ y_ : List ByteArray, y_ = (x5_1 ++ [x0_1.extract 0 (t195 : Int).toNat]) := ⟨_, rfl⟩
              replace H : (if 0 ≤ (wrap64 (t195 + (a1.size : Int))) then (if (wrap64 (t195 + (a1.size : Int))) ≤ (x0_1.size : Int) then (gronx_zzSplit.l0 k1 (x0_1.extract ((wrap64 (t195 + (a1.size : Int))) : Int).toNat x0_1.size) a1 y199) else (none)) else (none)) = some r := by first | (rw [hy199]; with_reducible exact H) | (have H2_ := (Option.bind_some _ _).symm.trans H; rw [hy199]; with_reducible exact H2_) | (have H2_ := (Option.bind_some _ _).symm.trans H; with_reducible exact H2_) | with_reducible exact H | (rw [hy199]; exact H) | exact H
              have Ny199 := Aside0.mk hy199
              clear hy199
              obtain ⟨ji10, hji10⟩ : ∃ j_ : Int, (wrap64 (t195 + (a1.size : Int))) = j_ := ⟨_, rfl⟩
              replace H : (if 0 ≤ (ji10) then (if (ji10) ≤ (x0_1.size : Int) then (gronx_zzSplit.l0 k1 (x0_1.extract ((ji10) : Int).toNat x0_1.size) a1 y199) else (none)) else (none)) = some r := by first | (rw [hji10] at H; exact H) | (simp only [hji10] at H ⊢; exact H)
              (try rw [hji10] at A3)
              have hji10w : (IntKind.i64.wrap (t195 + (a1.size : Int))) = ji10 := (i64_w _).trans hji10
              by_cases c11 : 0 ≤ (ji10)
              · rw [if_pos c11] at H
                have c11b0 := eq_true c11
                have c11b1 : decide (0 ≤ (ji10)) = true := decide_eq_true c11
                clear c11
                by_cases c12 : (ji10) ≤ (x0_1.size : Int)
                · rw [if_pos c12] at H
                  have c12b0 := eq_true c12
                  have c12b1 : decide ((ji10) ≤ (x0_1.size : Int)) = true := decide_eq_true c12
                  clear c12
                  have H' := Aside0.mk H
                  clear H
                  go_wp2_with (first | ((with_reducible refine gate_callee (f := 80) rfl ?_); refine goesL_ (some 9) rfl rfl Tryz.func80 (by kernel_rfl) rfl #[.string x0_1, .string a1] rfl (by (try simp only [List.map_toArray, List.map_cons, List.map_nil]); first | done | rfl | (simp only [List.length_drop, List.length_take]; rfl)) ?_; (with_reducible refine (gronx_zzIndex.calls k1 x0_1 a1 t195 _ A3.out).mono ?_); rintro e w' ⟨rfl, ⟨nd, rfl⟩⟩; refine ⟨_, rfl, ?_⟩) | ((with_reducible refine gate_builtin (b := .append) (xs := #[.tmp 16, .tmp 20]) rfl ?_); at_builtin; refine Kd.R_append Kd.string (w0 := w) w.heap.size rfl (.tmp 16) (.tmp 20) 43 9 (.string ⟨#[]⟩) 16 rfl Tryz.underlying43 info9 rfl (by decide) (by omega) u5 x5_1 (x0_1.extract 0 (t195 : Int).toNat) [.string (x0_1.extract 0 (t195 : Int).toNat)] (fun _ => True) (fun _ => False) rfl rfl ?aP (fun _ hk => hk.elim) ?aF ?aO ?aB ?aS ?aL ?_; (case aP => exact rfl); (case aB => exact (by repeat (first | (with_reducible first | exact HB.out | apply below_alloc | apply pw_below_drewN | apply below_drew1) | exact HB.out))); (case aF => exact (fun _ _ => trivial)); (case aO => exact (by (with_reducible repeat (first | apply Kd.R_alloc | apply Kd.R_drewN | apply Kd.R_drew)); exact HO_5.out)); (case aS => exact (below_size (by repeat (first | (with_reducible first | exact HB.out | apply below_alloc | apply pw_below_drewN | apply below_drew1) | exact HB.out)))); (case aL => have := LMc9.out; omega); intro v200 w13 ho hb hg hat; rw [← Ny199.out] at ho; have n0_ := Aside0.mk (hb); have n1_ := Aside0.mk (ho); clear HB; clear HO_5; have HB := n0_; have HO201 := n1_; clear n0_ n1_; clear ho hb hg hat))
                  go_roundg k1
                  case measure => have := HK1.out; omega
                  case rel => exact ⟨(x0_1.extract ((ji10) : Int).toNat x0_1.size), (y199), (by first | rfl | (simp; done) | (simp only [← hji10] <;> (first | rfl | simp)) | (simp [*]; done)), H', ⟨by have := HK1.out; omega⟩, ⟨by (with_reducible repeat (first | apply Kd.R_alloc | apply Kd.R_drewN | apply Kd.R_drew)); exact HO201.out⟩, ⟨by repeat (first | (with_reducible first | exact HB.out | apply below_alloc | apply pw_below_drewN | apply below_drew1) | exact HB.out)⟩⟩
                · rw [if_neg c12] at H
                  exact absurd H (by simp)
              · rw [if_neg c11] at H
                exact absurd H (by simp)
            · rw [if_neg c9] at H
              exact absurd H (by simp)
          · rw [if_neg c8] at H
            exact absurd H (by simp)
        · rw [if_neg c7] at H
          exact absurd H (by simp)
end Go.Proofs.YtkhgeonlohafgaaGreatDoor.Core
namespace Go.Proofs.YtkhgeonlohafgaaGreatDoor.Core
open Go.RowKit Go.Proofs.YtkhgeonlohafgaaGreatDoorW.PrintWords Go.Proofs.YtkhgeonlohafgaaGreatDoorW.PrintLast Go.Proofs.YtkhgeonlohafgaaGreatDoorW.PrintMore
attribute [local go_sem] max2_int min2_int max_two min_two max_three min_three max_four min_four   -- for this text's walks alone
set_option linter.unusedVariables false
set_option linter.unusedSimpArgs false
mutual
def gronx_inStepRange.l0 : Nat → Int → Int → Int → Int → Option (Bool)
  | 0, _, _, _, _ => none
  | k + 1, x0, x2, x3, x9 => if x9 ≤ x2 then (gronx_inStepRange.j1 k x0 x2 x3 x9 (decide (x9 ≤ x0))) else (gronx_inStepRange.j1 k x0 x2 x3 x9 false)
def gronx_inStepRange.j1 : Nat → Int → Int → Int → Int → Bool → Option (Bool)
  | 0, _, _, _, _, _ => none
  | k + 1, x0, x2, x3, x9, x18 => if x18 = true then (if x9 = x0 then (some true) else (gronx_inStepRange.l0 k x0 x2 x3 (wrap64 (x9 + x3)))) else (some false)
end
def gronx_inStepRange.f (k : Nat) (a0 : Int) (a1 : Int) (a2 : Int) (a3 : Int) : Option (Bool) := gronx_inStepRange.l0 k a0 a2 a3 a1
set_option maxHeartbeats 8000000 in
set_option maxRecDepth 100000 in
theorem gronx_inStepRange.calls (k : Nat) (a0 : Int) (a1 : Int) (a2 : Int) (a3 : Int) (r : Bool) (w : World) (h : gronx_inStepRange.f k a0 a1 a2 a3 = some r) :
    Calls Tryz.prog 112 #[.int .i64 a0, .int .i64 a1, .int .i64 a2, .int .i64 a3] w fun e w' => e = .returned (.bool r) ∧ Drawn0 w w' := by
  have H : (gronx_inStepRange.l0 k a0 a2 a3 a1) = some r := h
  clear h
  have H' := Aside0.mk H
  clear H
  go_enter Tryz.func112, Tryz.ntmps112
  go_wp2
  go_loopg [9] k (fun kq v9 w' => ∃ (x9_1 : Int), v9 = .int .i64 x9_1 ∧ Aside0 (gronx_inStepRange.l0 kq a0 a2 a3 x9_1 = some r) ∧ Aside0 (kq ≤ k) ∧ Drawn0 w w')
  case atStart => exact ⟨(a1), (by first | rfl | (simp; done) | (simp [*]; done)), H', ⟨Nat.le_refl _⟩, by repeat (first | exact Drawn0.refl _ | apply Drawn0.step)⟩
  case round =>
    clear H'
    try clear c1
    try clear p2
    obtain ⟨x9_1, rfl, HA, HK1, ⟨m1, rfl⟩⟩ := hrel
    cases gk with
    | zero => exact absurd HA.out (by simp [gronx_inStepRange.l0])
    | succ k1 =>
      have H := HA.out
      clear HA
      simp only [gronx_inStepRange.l0] at H
      have HC5 := Aside0.mk H
      clear H
      go_upto_region 2 with (fail)
      go_cut [18] (fun v18 wc => ∃ (kq : Nat) (x18_4 : Bool), v18 = .bool x18_4 ∧ Aside0 (gronx_inStepRange.j1 kq a0 a2 a3 x9_1 x18_4 = some r) ∧ Aside0 (kq ≤ k1) ∧ Drawn0 w wc)
      case first =>
        have H := HC5.out
        clear HC5
        by_cases c6 : x9_1 ≤ a2
        · rw [if_pos c6] at H
          have c6b0 : decide (x9_1 ≤ a2) = true := decide_eq_true c6
          clear c6
          (first | rw [c6b0] | (simp only [i64_w, i32_w]; rw [c6b0]) | skip)
          have H' := Aside0.mk H
          clear H
          go_wp2
          go_meet
          case rel => exact ⟨_, (decide (x9_1 ≤ a0)), (by first | rfl | (simp; done) | (simp [*]; done)), H', ⟨by have := HK1.out; first | omega | exact Nat.le_refl _⟩, by repeat (first | exact Drawn0.refl _ | apply Drawn0.step)⟩
        · rw [if_neg c6] at H
          have c6b0 : decide (x9_1 ≤ a2) = false := decide_eq_false c6
          clear c6
          (first | rw [c6b0] | (simp only [i64_w, i32_w]; rw [c6b0]) | skip)
          have H' := Aside0.mk H
          clear H
          go_wp2
          go_meet
          case rel => exact ⟨_, (false), (by first | rfl | (simp; done) | (simp [*]; done)), H', ⟨by have := HK1.out; first | omega | exact Nat.le_refl _⟩, by repeat (first | exact Drawn0.refl _ | apply Drawn0.step)⟩
      case rest =>
        clear HC5
        try clear c1
        try clear p2
        try clear c6
        try clear c6b0
        try clear p2
        obtain ⟨kq, x18_4, rfl, HA, HJ4, ⟨mc4, rfl⟩⟩ := hcut
        cases kq with
        | zero => exact absurd HA.out (by simp [gronx_inStepRange.j1])
        | succ kj4 =>
          have H := HA.out
          clear HA
          simp only [gronx_inStepRange.j1] at H
          by_cases c7 : x18_4 = true
          · subst c7
            have H1 : (if x9_1 = a0 then (some true) else (gronx_inStepRange.l0 kj4 a0 a2 a3 (wrap64 (x9_1 + a3)))) = some r := by rw [if_pos rfl] at H; exact H
            clear H
            have H := H1
            clear H1
            by_cases c8 : x9_1 = a0
            · rw [if_pos c8] at H
              have c8b0 : (x9_1 == a0) = true := beq_iff_eq.mpr c8
              have c8b1 : (x9_1 != a0) = false := bne_eq_false_iff_eq.mpr c8
              clear c8
              obtain rfl := Option.some.inj H
              go_wp2
              go_ret
              exact ⟨by first | rfl | (simp; done) | (simp [*]; done), by repeat (first | exact Drawn0.refl _ | apply Drawn0.step)⟩
            · rw [if_neg c8] at H
              have c8b0 : (x9_1 == a0) = false := beq_eq_false_iff_ne.mpr c8
              have c8b1 : (x9_1 != a0) = true := bne_iff_ne.mpr c8
              have H' := Aside0.mk H
              clear H
              go_wp2
              go_roundg kj4
              case measure => have := HK1.out; have := HJ4.out; omega
              case rel => exact ⟨(wrap64 (x9_1 + a3)), (by first | rfl | (simp; done) | (simp [*]; done)), H', ⟨by have := HK1.out; have := HJ4.out; omega⟩, by repeat (first | exact Drawn0.refl _ | apply Drawn0.step)⟩
          · replace c7 := Bool.eq_false_iff.mpr c7
            subst c7
            have H1 : (some false) = some r := by rw [if_neg (show ¬ (false = true) by decide)] at H; exact H
            clear H
            have H := H1
            clear H1
            obtain rfl := Option.some.inj H
            go_wp2
            go_ret
            exact ⟨by first | rfl | (simp; done) | (simp [*]; done), by repeat (first | exact Drawn0.refl _ | apply Drawn0.step)⟩
end Go.Proofs.YtkhgeonlohafgaaGreatDoor.Core
namespace Go.Proofs
open Go.Shelf
def Tryz.lays158_ren : Go.Shelf.Ren := ⟨fun | 158 => 78 | 165 => 103 | 166 => 104 | 167 => 105 | 169 => 106 | 230 => 107 | 203 => 110 | 240 => 121 | 241 => 122 | 197 => 123 | 118 => 124 | 168 => 125 | 270 => 126 | 262 => 127 | 276 => 133 | 277 => 134 | 260 => 135 | 242 => 136 | 313 => 137 | 278 => 141 | 274 => 142 | 275 => 143 | n => n, fun | 9 => 9 | 4 => 4 | 3 => 3 | 5 => 5 | 72 => 172 | 0 => 0 | 76 => 140 | 75 => 71 | 107 => 177 | 70 => 170 | 20 => 20 | 37 => 78 | 127 => 184 | 21 => 21 | 105 => 185 | 164 => 196 | 162 => 202 | 203 => 200 | 119 => 207 | 46 => 164 | 139 => 210 | 138 => 209 | 51 => 163 | 160 => 211 | 208 => 218 | 206 => 216 | 80 => 175 | n => n, fun | 13 => 0 | 3 => 4 | 4 => 5 | n => n⟩
theorem Tryz.lays158 : Go.Proofs.Lays.n158 Tryz.prog Tryz.lays158_ren := {
  mixed := by kernel_rfl
  f118 := Tryz.func124.trans (congrArg some (by kernel_rfl))
  f158 := Tryz.func78.trans (congrArg some (by kernel_rfl))
  f165 := Tryz.func103.trans (congrArg some (by kernel_rfl))
  f166 := Tryz.func104.trans (congrArg some (by kernel_rfl))
  f167 := Tryz.func105.trans (congrArg some (by kernel_rfl))
  f168 := Tryz.func125.trans (congrArg some (by kernel_rfl))
  f169 := Tryz.func106.trans (congrArg some (by kernel_rfl))
  f197 := Tryz.func123.trans (congrArg some (by kernel_rfl))
  f203 := Tryz.func110.trans (congrArg some (by kernel_rfl))
  f230 := Tryz.func107.trans (congrArg some (by kernel_rfl))
  f240 := Tryz.func121.trans (congrArg some (by kernel_rfl))
  f241 := Tryz.func122.trans (congrArg some (by kernel_rfl))
  f242 := Tryz.func136.trans (congrArg some (by kernel_rfl))
  f260 := Tryz.func135.trans (congrArg some (by kernel_rfl))
  f262 := Tryz.func127.trans (congrArg some (by kernel_rfl))
  f270 := Tryz.func126.trans (congrArg some (by kernel_rfl))
  f274 := Tryz.func142.trans (congrArg some (by kernel_rfl))
  f275 := Tryz.func143.trans (congrArg some (by kernel_rfl))
  f276 := Tryz.func133.trans (congrArg some (by kernel_rfl))
  f277 := Tryz.func134.trans (congrArg some (by kernel_rfl))
  f278 := Tryz.func141.trans (congrArg some (by kernel_rfl))
  f313 := Tryz.func137.trans (congrArg some (by kernel_rfl))
  t0 := Tryz.underlying0
  a0 := Tryz.isAgg0
  z0 := Tryz.sizeOf0
  v0 := Tryz.zeroValue0
  t3 := Tryz.underlying3
  a3 := Tryz.isAgg3
  z3 := Tryz.sizeOf3
  v3 := Tryz.zeroValue3
  t4 := Tryz.underlying4
  a4 := Tryz.isAgg4
  z4 := Tryz.sizeOf4
  v4 := Tryz.zeroValue4
  t5 := Tryz.underlying5
  a5 := Tryz.isAgg5
  z5 := Tryz.sizeOf5
  v5 := Tryz.zeroValue5
  t9 := Tryz.underlying9
  a9 := Tryz.isAgg9
  z9 := Tryz.sizeOf9
  v9 := Tryz.zeroValue9
  t20 := Tryz.underlying20
  a20 := Tryz.isAgg20
  z20 := Tryz.sizeOf20
  v20 := Tryz.zeroValue20
  t21 := Tryz.underlying21
  a21 := Tryz.isAgg21
  z21 := Tryz.sizeOf21
  v21 := Tryz.zeroValue21
  t37 := Tryz.underlying78
  a37 := Tryz.isAgg78
  z37 := Tryz.sizeOf78
  v37 := Tryz.zeroValue78
  t46 := Tryz.underlying164
  a46 := Tryz.isAgg164
  z46 := Tryz.sizeOf164
  v46 := Tryz.zeroValue164
  t51 := Tryz.underlying163
  a51 := Tryz.isAgg163
  z51 := Tryz.sizeOf163
  v51 := Tryz.zeroValue163
  t70 := Tryz.underlying170
  a70 := Tryz.isAgg170
  z70 := Tryz.sizeOf170
  v70 := Tryz.zeroValue170
  t72 := Tryz.underlying172
  a72 := Tryz.isAgg172
  z72 := Tryz.sizeOf172
  v72 := Tryz.zeroValue172
  t75 := Tryz.underlying71
  a75 := Tryz.isAgg71
  z75 := Tryz.sizeOf71
  v75 := Tryz.zeroValue71
  t76 := Tryz.underlying140
  a76 := Tryz.isAgg140
  z76 := Tryz.sizeOf140
  v76 := Tryz.zeroValue140
  t105 := Tryz.underlying185
  a105 := Tryz.isAgg185
  z105 := Tryz.sizeOf185
  v105 := Tryz.zeroValue185
  t107 := Tryz.underlying177
  a107 := Tryz.isAgg177
  z107 := Tryz.sizeOf177
  v107 := Tryz.zeroValue177
  t119 := Tryz.underlying207
  a119 := Tryz.isAgg207
  z119 := Tryz.sizeOf207
  t127 := Tryz.underlying184
  a127 := Tryz.isAgg184
  z127 := Tryz.sizeOf184
  v127 := Tryz.zeroValue184
  t138 := Tryz.underlying209
  a138 := Tryz.isAgg209
  z138 := Tryz.sizeOf209
  v138 := Tryz.zeroValue209
  t139 := Tryz.underlying210
  a139 := Tryz.isAgg210
  z139 := Tryz.sizeOf210
  v139 := Tryz.zeroValue210
  t160 := Tryz.underlying211
  a160 := Tryz.isAgg211
  z160 := Tryz.sizeOf211
  v160 := Tryz.zeroValue211
  t162 := Tryz.underlying202
  a162 := Tryz.isAgg202
  z162 := Tryz.sizeOf202
  v162 := Tryz.zeroValue202
  t164 := Tryz.underlying196
  a164 := Tryz.isAgg196
  z164 := Tryz.sizeOf196
  v164 := Tryz.zeroValue196
  t203 := Tryz.underlying200
  a203 := Tryz.isAgg200
  z203 := Tryz.sizeOf200
  v203 := Tryz.zeroValue200
  t206 := Tryz.underlying216
  a206 := Tryz.isAgg216
  z206 := Tryz.sizeOf216
  v206 := Tryz.zeroValue216
  t208 := Tryz.underlying218
  a208 := Tryz.isAgg218
  z208 := Tryz.sizeOf218
  v208 := Tryz.zeroValue218
  g3 := by kernel_rfl
  g4 := by kernel_rfl
  g13 := by kernel_rfl }
theorem Tryz.Builder_Extra_158 : Builder.Extra Tryz.prog Tryz.lays158_ren := {
  sizeBuilder := by kernel_rfl
  liesBuilder := by kernel_rfl
  t5 := Tryz.underlying5
  a5 := Tryz.isAgg5
  z5 := Tryz.sizeOf5
  v5 := Tryz.zeroValue5
  infoByte := by kernel_rfl
  cellsByte := by kernel_rfl
  sizeByte := by kernel_rfl
  neB5 := by decide }
open Go.RowKit in
theorem Tryz.strings_ToUpper_ascii (s : ByteArray) (w : World) (hs : s.size ≤ 140737488355328) (hascii : ∀ (j : Nat) (b : UInt8), s.data.toList[j]? = some b → b.toNat < 128) :
    Calls Tryz.prog 78 #[.string s] w fun e w' => e = .returned (.string ⟨(Lib.toUpperA s.data.toList).toArray⟩) ∧ Below w.heap.size w w' := Any.strings_ToUpper_ascii Tryz.lays158 Tryz.Builder_Extra_158 s w hs hascii
def Tryz.lays159_ren : Go.Shelf.Ren := ⟨fun | 159 => 75 | 165 => 103 | 166 => 104 | 167 => 105 | 169 => 106 | 230 => 107 | 204 => 108 | 240 => 121 | 241 => 122 | 197 => 123 | 118 => 124 | 168 => 125 | 270 => 126 | 262 => 127 | 276 => 133 | 277 => 134 | 260 => 135 | 242 => 136 | 313 => 137 | 278 => 141 | 274 => 142 | 275 => 143 | n => n, fun | 9 => 9 | 4 => 4 | 3 => 3 | 5 => 5 | 72 => 172 | 0 => 0 | 76 => 140 | 75 => 71 | 107 => 177 | 70 => 170 | 20 => 20 | 37 => 78 | 127 => 184 | 21 => 21 | 105 => 185 | 164 => 196 | 162 => 202 | 203 => 200 | 119 => 207 | 46 => 164 | 139 => 210 | 138 => 209 | 51 => 163 | 160 => 211 | 208 => 218 | 206 => 216 | 80 => 175 | n => n, fun | 13 => 0 | 3 => 4 | 4 => 5 | n => n⟩
theorem Tryz.lays159 : Go.Proofs.Lays.n159 Tryz.prog Tryz.lays159_ren := {
  mixed := by kernel_rfl
  f118 := Tryz.func124.trans (congrArg some (by kernel_rfl))
  f159 := Tryz.func75.trans (congrArg some (by kernel_rfl))
  f165 := Tryz.func103.trans (congrArg some (by kernel_rfl))
  f166 := Tryz.func104.trans (congrArg some (by kernel_rfl))
  f167 := Tryz.func105.trans (congrArg some (by kernel_rfl))
  f168 := Tryz.func125.trans (congrArg some (by kernel_rfl))
  f169 := Tryz.func106.trans (congrArg some (by kernel_rfl))
  f197 := Tryz.func123.trans (congrArg some (by kernel_rfl))
  f204 := Tryz.func108.trans (congrArg some (by kernel_rfl))
  f230 := Tryz.func107.trans (congrArg some (by kernel_rfl))
  f240 := Tryz.func121.trans (congrArg some (by kernel_rfl))
  f241 := Tryz.func122.trans (congrArg some (by kernel_rfl))
  f242 := Tryz.func136.trans (congrArg some (by kernel_rfl))
  f260 := Tryz.func135.trans (congrArg some (by kernel_rfl))
  f262 := Tryz.func127.trans (congrArg some (by kernel_rfl))
  f270 := Tryz.func126.trans (congrArg some (by kernel_rfl))
  f274 := Tryz.func142.trans (congrArg some (by kernel_rfl))
  f275 := Tryz.func143.trans (congrArg some (by kernel_rfl))
  f276 := Tryz.func133.trans (congrArg some (by kernel_rfl))
  f277 := Tryz.func134.trans (congrArg some (by kernel_rfl))
  f278 := Tryz.func141.trans (congrArg some (by kernel_rfl))
  f313 := Tryz.func137.trans (congrArg some (by kernel_rfl))
  t0 := Tryz.underlying0
  a0 := Tryz.isAgg0
  z0 := Tryz.sizeOf0
  v0 := Tryz.zeroValue0
  t3 := Tryz.underlying3
  a3 := Tryz.isAgg3
  z3 := Tryz.sizeOf3
  v3 := Tryz.zeroValue3
  t4 := Tryz.underlying4
  a4 := Tryz.isAgg4
  z4 := Tryz.sizeOf4
  v4 := Tryz.zeroValue4
  t5 := Tryz.underlying5
  a5 := Tryz.isAgg5
  z5 := Tryz.sizeOf5
  v5 := Tryz.zeroValue5
  t9 := Tryz.underlying9
  a9 := Tryz.isAgg9
  z9 := Tryz.sizeOf9
  v9 := Tryz.zeroValue9
  t20 := Tryz.underlying20
  a20 := Tryz.isAgg20
  z20 := Tryz.sizeOf20
  v20 := Tryz.zeroValue20
  t21 := Tryz.underlying21
  a21 := Tryz.isAgg21
  z21 := Tryz.sizeOf21
  v21 := Tryz.zeroValue21
  t37 := Tryz.underlying78
  a37 := Tryz.isAgg78
  z37 := Tryz.sizeOf78
  v37 := Tryz.zeroValue78
  t46 := Tryz.underlying164
  a46 := Tryz.isAgg164
  z46 := Tryz.sizeOf164
  v46 := Tryz.zeroValue164
  t51 := Tryz.underlying163
  a51 := Tryz.isAgg163
  z51 := Tryz.sizeOf163
  v51 := Tryz.zeroValue163
  t70 := Tryz.underlying170
  a70 := Tryz.isAgg170
  z70 := Tryz.sizeOf170
  v70 := Tryz.zeroValue170
  t72 := Tryz.underlying172
  a72 := Tryz.isAgg172
  z72 := Tryz.sizeOf172
  v72 := Tryz.zeroValue172
  t75 := Tryz.underlying71
  a75 := Tryz.isAgg71
  z75 := Tryz.sizeOf71
  v75 := Tryz.zeroValue71
  t76 := Tryz.underlying140
  a76 := Tryz.isAgg140
  z76 := Tryz.sizeOf140
  v76 := Tryz.zeroValue140
  t105 := Tryz.underlying185
  a105 := Tryz.isAgg185
  z105 := Tryz.sizeOf185
  v105 := Tryz.zeroValue185
  t107 := Tryz.underlying177
  a107 := Tryz.isAgg177
  z107 := Tryz.sizeOf177
  v107 := Tryz.zeroValue177
  t119 := Tryz.underlying207
  a119 := Tryz.isAgg207
  z119 := Tryz.sizeOf207
  t127 := Tryz.underlying184
  a127 := Tryz.isAgg184
  z127 := Tryz.sizeOf184
  v127 := Tryz.zeroValue184
  t138 := Tryz.underlying209
  a138 := Tryz.isAgg209
  z138 := Tryz.sizeOf209
  v138 := Tryz.zeroValue209
  t139 := Tryz.underlying210
  a139 := Tryz.isAgg210
  z139 := Tryz.sizeOf210
  v139 := Tryz.zeroValue210
  t160 := Tryz.underlying211
  a160 := Tryz.isAgg211
  z160 := Tryz.sizeOf211
  v160 := Tryz.zeroValue211
  t162 := Tryz.underlying202
  a162 := Tryz.isAgg202
  z162 := Tryz.sizeOf202
  v162 := Tryz.zeroValue202
  t164 := Tryz.underlying196
  a164 := Tryz.isAgg196
  z164 := Tryz.sizeOf196
  v164 := Tryz.zeroValue196
  t203 := Tryz.underlying200
  a203 := Tryz.isAgg200
  z203 := Tryz.sizeOf200
  v203 := Tryz.zeroValue200
  t206 := Tryz.underlying216
  a206 := Tryz.isAgg216
  z206 := Tryz.sizeOf216
  v206 := Tryz.zeroValue216
  t208 := Tryz.underlying218
  a208 := Tryz.isAgg218
  z208 := Tryz.sizeOf218
  v208 := Tryz.zeroValue218
  g3 := by kernel_rfl
  g4 := by kernel_rfl
  g13 := by kernel_rfl }
theorem Tryz.Builder_Extra_159 : Builder.Extra Tryz.prog Tryz.lays159_ren := {
  sizeBuilder := by kernel_rfl
  liesBuilder := by kernel_rfl
  t5 := Tryz.underlying5
  a5 := Tryz.isAgg5
  z5 := Tryz.sizeOf5
  v5 := Tryz.zeroValue5
  infoByte := by kernel_rfl
  cellsByte := by kernel_rfl
  sizeByte := by kernel_rfl
  neB5 := by decide }
open Go.RowKit in
theorem Tryz.strings_ToLower_ascii (s : ByteArray) (w : World) (hs : s.size ≤ 140737488355328) (hascii : ∀ (j : Nat) (b : UInt8), s.data.toList[j]? = some b → b.toNat < 128) :
    Calls Tryz.prog 75 #[.string s] w fun e w' => e = .returned (.string ⟨(Lib.toLowerA s.data.toList).toArray⟩) ∧ Below w.heap.size w w' := Any.strings_ToLower_ascii Tryz.lays159 Tryz.Builder_Extra_159 s w hs hascii
def Tryz.lays172_ren : Go.Shelf.Ren := ⟨fun | 172 => 88 | 244 => 113 | 245 => 114 | 247 => 128 | 279 => 129 | 280 => 130 | 281 => 131 | 282 => 132 | 287 => 138 | 316 => 139 | 171 => 140 | 205 => 51 | 321 => 144 | 322 => 145 | 243 => 146 | 246 => 147 | 283 => 148 | 284 => 149 | 285 => 150 | 286 => 151 | 129 => 153 | 317 => 152 | 318 => 154 | 319 => 155 | 320 => 156 | 337 => 157 | 338 => 158 | n => n, fun | 9 => 9 | 3 => 3 | 75 => 71 | 76 => 140 | 4 => 4 | 5 => 5 | 167 => 190 | 37 => 78 | 0 => 0 | 85 => 191 | 2 => 2 | 168 => 193 | 53 => 60 | 175 => 203 | 46 => 164 | 210 => 206 | 127 => 184 | 145 => 133 | 143 => 131 | 21 => 21 | 171 => 220 | 173 => 223 | 212 => 226 | 51 => 163 | 20 => 20 | 213 => 227 | 232 => 230 | 233 => 231 | 80 => 175 | n => n, fun | 15 => 1 | 16 => 2 | 17 => 6 | 18 => 7 | 19 => 8 | n => n⟩
theorem Tryz.lays172 : Go.Proofs.Lays.n172 Tryz.prog Tryz.lays172_ren := {
  mixed := by kernel_rfl
  f129 := Tryz.func153.trans (congrArg some (by kernel_rfl))
  f171 := Tryz.func140.trans (congrArg some (by kernel_rfl))
  f172 := Tryz.func88.trans (congrArg some (by kernel_rfl))
  f205 := Tryz.func51.trans (congrArg some (by kernel_rfl))
  f243 := Tryz.func146.trans (congrArg some (by kernel_rfl))
  f244 := Tryz.func113.trans (congrArg some (by kernel_rfl))
  f245 := Tryz.func114.trans (congrArg some (by kernel_rfl))
  f246 := Tryz.func147.trans (congrArg some (by kernel_rfl))
  f247 := Tryz.func128.trans (congrArg some (by kernel_rfl))
  f279 := Tryz.func129.trans (congrArg some (by kernel_rfl))
  f280 := Tryz.func130.trans (congrArg some (by kernel_rfl))
  f281 := Tryz.func131.trans (congrArg some (by kernel_rfl))
  f282 := Tryz.func132.trans (congrArg some (by kernel_rfl))
  f283 := Tryz.func148.trans (congrArg some (by kernel_rfl))
  f284 := Tryz.func149.trans (congrArg some (by kernel_rfl))
  f285 := Tryz.func150.trans (congrArg some (by kernel_rfl))
  f286 := Tryz.func151.trans (congrArg some (by kernel_rfl))
  f287 := Tryz.func138.trans (congrArg some (by kernel_rfl))
  f316 := Tryz.func139.trans (congrArg some (by kernel_rfl))
  f317 := Tryz.func152.trans (congrArg some (by kernel_rfl))
  f318 := Tryz.func154.trans (congrArg some (by kernel_rfl))
  f319 := Tryz.func155.trans (congrArg some (by kernel_rfl))
  f320 := Tryz.func156.trans (congrArg some (by kernel_rfl))
  f321 := Tryz.func144.trans (congrArg some (by kernel_rfl))
  f322 := Tryz.func145.trans (congrArg some (by kernel_rfl))
  f337 := Tryz.func157.trans (congrArg some (by kernel_rfl))
  f338 := Tryz.func158.trans (congrArg some (by kernel_rfl))
  t0 := Tryz.underlying0
  a0 := Tryz.isAgg0
  z0 := Tryz.sizeOf0
  v0 := Tryz.zeroValue0
  t2 := Tryz.underlying2
  a2 := Tryz.isAgg2
  z2 := Tryz.sizeOf2
  v2 := Tryz.zeroValue2
  t3 := Tryz.underlying3
  a3 := Tryz.isAgg3
  z3 := Tryz.sizeOf3
  v3 := Tryz.zeroValue3
  t4 := Tryz.underlying4
  a4 := Tryz.isAgg4
  z4 := Tryz.sizeOf4
  v4 := Tryz.zeroValue4
  t5 := Tryz.underlying5
  a5 := Tryz.isAgg5
  z5 := Tryz.sizeOf5
  v5 := Tryz.zeroValue5
  t9 := Tryz.underlying9
  a9 := Tryz.isAgg9
  z9 := Tryz.sizeOf9
  v9 := Tryz.zeroValue9
  t20 := Tryz.underlying20
  a20 := Tryz.isAgg20
  z20 := Tryz.sizeOf20
  v20 := Tryz.zeroValue20
  t21 := Tryz.underlying21
  a21 := Tryz.isAgg21
  z21 := Tryz.sizeOf21
  v21 := Tryz.zeroValue21
  t37 := Tryz.underlying78
  a37 := Tryz.isAgg78
  z37 := Tryz.sizeOf78
  v37 := Tryz.zeroValue78
  t46 := Tryz.underlying164
  a46 := Tryz.isAgg164
  z46 := Tryz.sizeOf164
  v46 := Tryz.zeroValue164
  t51 := Tryz.underlying163
  a51 := Tryz.isAgg163
  z51 := Tryz.sizeOf163
  v51 := Tryz.zeroValue163
  t53 := Tryz.underlying60
  a53 := Tryz.isAgg60
  z53 := Tryz.sizeOf60
  v53 := Tryz.zeroValue60
  t75 := Tryz.underlying71
  a75 := Tryz.isAgg71
  z75 := Tryz.sizeOf71
  v75 := Tryz.zeroValue71
  t76 := Tryz.underlying140
  a76 := Tryz.isAgg140
  z76 := Tryz.sizeOf140
  v76 := Tryz.zeroValue140
  t85 := Tryz.underlying191
  a85 := Tryz.isAgg191
  z85 := Tryz.sizeOf191
  v85 := Tryz.zeroValue191
  t127 := Tryz.underlying184
  a127 := Tryz.isAgg184
  z127 := Tryz.sizeOf184
  v127 := Tryz.zeroValue184
  t143 := Tryz.underlying131
  a143 := Tryz.isAgg131
  z143 := Tryz.sizeOf131
  v143 := Tryz.zeroValue131
  t145 := Tryz.underlying133
  a145 := Tryz.isAgg133
  z145 := Tryz.sizeOf133
  v145 := Tryz.zeroValue133
  t167 := Tryz.underlying190
  a167 := Tryz.isAgg190
  z167 := Tryz.sizeOf190
  v167 := Tryz.zeroValue190
  t168 := Tryz.underlying193
  a168 := Tryz.isAgg193
  z168 := Tryz.sizeOf193
  v168 := Tryz.zeroValue193
  t171 := Tryz.underlying220
  a171 := Tryz.isAgg220
  z171 := Tryz.sizeOf220
  v171 := Tryz.zeroValue220
  t173 := Tryz.underlying223
  a173 := Tryz.isAgg223
  z173 := Tryz.sizeOf223
  v173 := Tryz.zeroValue223
  t175 := Tryz.underlying203
  a175 := Tryz.isAgg203
  z175 := Tryz.sizeOf203
  v175 := Tryz.zeroValue203
  t210 := Tryz.underlying206
  a210 := Tryz.isAgg206
  z210 := Tryz.sizeOf206
  v210 := Tryz.zeroValue206
  t212 := Tryz.underlying226
  a212 := Tryz.isAgg226
  z212 := Tryz.sizeOf226
  v212 := Tryz.zeroValue226
  t213 := Tryz.underlying227
  a213 := Tryz.isAgg227
  z213 := Tryz.sizeOf227
  t232 := Tryz.underlying230
  a232 := Tryz.isAgg230
  z232 := Tryz.sizeOf230
  v232 := Tryz.zeroValue230
  t233 := Tryz.underlying231
  a233 := Tryz.isAgg231
  z233 := Tryz.sizeOf231
  v233 := Tryz.zeroValue231
  g15 := by kernel_rfl
  g16 := by kernel_rfl
  g17 := by kernel_rfl
  g18 := by kernel_rfl
  g19 := by kernel_rfl }
open Go.RowKit in
theorem Tryz.strconv_Atoi (s : ByteArray) (n : Int) (hl : s.size ≤ 18) (h : Lib.atoi s.data.toList = some n) (w : World) :
    Calls Tryz.prog 88 #[.string s] w fun e w' => e = .returned (.tuple #[.int .i64 n, .nilIface]) ∧ ∃ t, w' = Lib.bytesWorld w 5 t := Any.strconv_Atoi Tryz.lays172 s n hl h w
end Go.Proofs
namespace Go.Proofs.YtkhgeonlohafgaaGreatDoor.Core
open Go.RowKit Go.Proofs.YtkhgeonlohafgaaGreatDoorW.PrintWords
def strconv_Atoi.f (a0 : ByteArray) : Option (Int × Option Int) := if a0.size ≤ 18 then ((Lib.atoi a0.data.toList).bind fun n => some (n, none)) else none
theorem strconv_Atoi.calls (a0 : ByteArray) (r1 : Int) (r2 : Option Int) (w : World) (h : strconv_Atoi.f a0 = some (r1, r2)) :
    Calls Tryz.prog 88 #[.string a0] w fun e w' => e = .returned (.tuple #[.int .i64 r1, errW r2]) ∧ Below w.heap.size w w' := by
  unfold strconv_Atoi.f at h
  split at h
  · rename_i h1
    obtain ⟨n, hn, h⟩ := Option.bind_eq_some_iff.1 h
    simp only [Option.some.injEq, Prod.mk.injEq] at h
    obtain ⟨rfl, rfl⟩ := h
    refine (Tryz.strconv_Atoi a0 n h1 hn w).mono ?_
    rintro e w' ⟨rfl, t, rfl⟩
    exact ⟨rfl, bytes_below (Below.refl _ _) (Nat.le_refl _) _ _⟩
  · cases h
end Go.Proofs.YtkhgeonlohafgaaGreatDoor.Core
