/- Contracts and plain lemmas of this seat (part 2), merged by wip/merge2.py; what is proved stands in the claim's last text. -/
import Derived.Test.YtkhgeonlohafgaaGreatDoorCFew1
import Derived.Test.YtkhgeonlohafgaaGreatDoorProg
import Derived.Below
import Derived.Deep.Draws
import Derived.Deep.AppendLies
import Derived.Maps.AppendAt
import Derived.OwnWalk
import Derived.Laws.BytesArg
import Derived.Laws.MakeOwn
import Derived.Laws.OwnMore
import Derived.Deep.OwnRows
import Derived.Tactics
import Derived.Lib.ConvBytes
import Derived.Laws.Slices
import Derived.WalkKit
import Derived.KernelRfl
import Derived.RowKit3
import Derived.Deep.LoopGhost
import Derived.Deep.QuietTactic
import Derived.BigQuiet
import Derived.WideLaws
import Derived.Deep.DeepCutAuto
import Derived.Deep.CutBlock
import Derived.Deep.RegionHeld3
import Derived.Laws.Rows
import Derived.Lib.AppendStr
import Derived.ArgAppend
import Derived.Laws.IdiomCopy
import Derived.OrdersHeld
import Derived.Laws.BitsLemmas
import Derived.RowKit
import Derived.ChangeKeysEq
import Derived.Barred
import Derived.Lib.Strings
import Derived.Laws.BitsAllLaws
import Derived.WalkSpells
import Derived.WalkLawsBesides
import Derived.Outline
namespace Go.Proofs.YtkhgeonlohafgaaGreatDoor.Core
open Go.RowKit Go.Proofs.YtkhgeonlohafgaaGreatDoorW.PrintWords Go.Proofs.YtkhgeonlohafgaaGreatDoorW.PrintLast Go.Proofs.YtkhgeonlohafgaaGreatDoorW.PrintMore
attribute [local go_sem] max2_int min2_int max_two min_two max_three min_three max_four min_four   -- for this text's walks alone
set_option linter.unusedVariables false
set_option linter.unusedSimpArgs false
def errW : Option Int → Value
  | none => .nilIface
  | some c => .iface 0 (.int .i64 c)
theorem errW_none : errW none = .nilIface := rfl
theorem errW_some (c : Int) : errW (some c) = .iface 0 (.int .i64 c) := rfl
theorem info5 : (Tryz.prog.info? 5).map (fun i => (i.zero, i.size, i.bytes)) = some (some (.int .u8 0), 1, 1) := by kernel_rfl
theorem info9 : (Tryz.prog.info? 9).map (fun i => (i.zero, i.size, i.bytes)) = some (some (.string ⟨#[]⟩), 1, 16) := by kernel_rfl
structure S25 where
  f0 : Int
  f1 : Int
  f2 : Int
  f3 : Int
  f4 : Int
  f5 : Int
structure S23 where
  f0 : Int
  f1 : Int
  f2 : Int
  f3 : Int
  f4 : Int
  f5 : Int
structure S67 where
  f0 : Bool
  f1 : Int
  f2 : Int
  f3 : Int
structure S57 where
  f0 : Bool
  f1 : Int
  f2 : Int
  f3 : Int
def errors_New.f (_a0 : ByteArray) : Option (Option Int) := none
theorem errors_New.calls (a0 : ByteArray) (r : Option Int) (w : World) (h : errors_New.f a0 = some r) :
    Calls Tryz.prog 51 #[.string a0] w fun e w' => e = .returned (errW r) ∧ Below w.heap.size w w' := by cases h
theorem index_arr {P : Program} (t e : TypeId) (n : Nat) (k : IntKind) (l : List Int) (j : Int) (h : P.underlying t = some (.array n e)) (he : P.plainKey e = true) (hz : ∀ w, (sizeOf e).run P w = .ok 1 w) (hl : l.length = n) (h0 : 0 ≤ j) (h1 : j < n) (w : World) :
    (Instr.index t (.agg (l.map fun x => Value.int k x).toArray) (.int .i64 j)).run P w = .ok (.int k (rd l j)) w := by
  have hx : ((l.map fun x => Value.int k x).toArray)[j.toNat * 1]? = some (.int k (rd l j)) := by
    have : j.toNat < l.length := by omega
    simp [rd, this]
  have hp := run_part_plain (w := w) he hx
  have e1 : (Instr.index t (.agg (l.map fun x => Value.int k x).toArray) (.int .i64 j)).run P w = (part e (l.map fun x => Value.int k x).toArray (j.toNat * 1)).run P w := by
    simp [Instr.index, run_underlying h, asIntOf, h0, h1, hz, go_sem]
  rw [e1]
  exact hp
theorem index_T82 (x0 x1 x2 x3 x4 x5 x6 x7 x8 x9 x10 x11 x12 j : Int) (h0 : 0 ≤ j) (h1 : j < 13) (w : World) : (Instr.index 82 (.agg #[.int .i64 x0, .int .i64 x1, .int .i64 x2, .int .i64 x3, .int .i64 x4, .int .i64 x5, .int .i64 x6, .int .i64 x7, .int .i64 x8, .int .i64 x9, .int .i64 x10, .int .i64 x11, .int .i64 x12]) (.int .i64 j)).run Tryz.prog w = .ok (.int .i64 (rd [x0, x1, x2, x3, x4, x5, x6, x7, x8, x9, x10, x11, x12] j)) w :=
  index_arr 82 3 13 .i64 [x0, x1, x2, x3, x4, x5, x6, x7, x8, x9, x10, x11, x12] j Tryz.underlying82 (by kernel_rfl) (fun w => by simp [Tryz.sizeOf3]) rfl h0 h1 w
end Go.Proofs.YtkhgeonlohafgaaGreatDoor.Core
namespace Go.Proofs.YtkhgeonlohafgaaGreatDoor.Core
open Go.RowKit Go.Proofs.YtkhgeonlohafgaaGreatDoorW.PrintWords Go.Proofs.YtkhgeonlohafgaaGreatDoorW.PrintLast Go.Proofs.YtkhgeonlohafgaaGreatDoorW.PrintMore
attribute [local go_sem] max2_int min2_int max_two min_two max_three min_three max_four min_four   -- for this text's walks alone
set_option linter.unusedVariables false
set_option linter.unusedSimpArgs false
def laws_moment.f (a0_0 : Int) (a0_1 : Int) (a0_2 : Int) (a0_3 : Int) (a0_4 : Int) (a0_5 : Int) : Option (Int × Int × Int × Int × Int × Int) := some (a0_0, a0_1, a0_2, a0_3, a0_4, a0_5)
set_option maxHeartbeats 8000000 in
set_option maxRecDepth 100000 in
theorem laws_moment.calls (a0_0 : Int) (a0_1 : Int) (a0_2 : Int) (a0_3 : Int) (a0_4 : Int) (a0_5 : Int) (r1 : Int) (r2 : Int) (r3 : Int) (r4 : Int) (r5 : Int) (r6 : Int) (w : World) (h : laws_moment.f a0_0 a0_1 a0_2 a0_3 a0_4 a0_5 = some (r1, r2, r3, r4, r5, r6)) :
    Calls Tryz.prog 13 #[.agg #[.int .i64 a0_0, .int .i64 a0_1, .int .i64 a0_2, .int .i64 a0_3, .int .i64 a0_4, .int .i64 a0_5]] w fun e w' => e = .returned (.agg #[.int .i64 r1, .int .i64 r2, .int .i64 r3, .int .i64 r4, .int .i64 r5, .int .i64 r6]) ∧ Below w.heap.size w w' := by
  have hu23 := Tryz.underlying23
  have hu25 := Tryz.underlying25
  have HB := Aside0.mk (Below.refl w.heap.size w)
  have H : (some (a0_0, a0_1, a0_2, a0_3, a0_4, a0_5)) = some (r1, r2, r3, r4, r5, r6) := h
  clear h
  simp only [Option.some.injEq, Prod.mk.injEq] at H
  obtain ⟨rfl, rfl, rfl, rfl, rfl, rfl⟩ := H
  go_enter Tryz.func13, Tryz.ntmps13
  go_wp2_with (first | ((with_reducible refine gate_dst (N := 1) rfl ?_); refine box_event ?hg (N := 1) ?hd (cs := #[.int .i64 a0_0, .int .i64 a0_1, .int .i64 a0_2, .int .i64 a0_3, .int .i64 a0_4, .int .i64 a0_5]) (t := 23) ?hr ?_; (case hd => rfl); (case hg => rfl); (case hr => first | (go_simp; done) | (go_simp; rfl)); intro gb101 hg w2 hbox hb; have n0_ := Aside0.mk (below_step (by repeat (first | (with_reducible first | exact HB.out | apply below_alloc | apply pw_below_drewN | apply below_drew1) | exact HB.out)) hb); have n1_ := Aside0.mk (hbox); have n2_ := Aside0.mk ((by rw [hg]; exact (below_size (by repeat (first | (with_reducible first | exact HB.out | apply below_alloc | apply pw_below_drewN | apply below_drew1) | exact HB.out))) : w.heap.size ≤ gb101)); have n3_ := Aside0.mk ((by rw [hg]; exact (below_size (by repeat (first | (with_reducible first | exact HB.out | apply below_alloc | apply pw_below_drewN | apply below_drew1) | exact HB.out))) : w.heap.size ≤ gb101)); clear HB; have HB := n0_; have BK101 := n1_; have GW101 := n2_; have GE101 := n3_; clear n0_ n1_ n2_ n3_; clear hb hbox hg) | ((with_reducible refine gate_dst (N := 2) rfl ?_); refine box_event ?hg (N := 2) ?hd (cs := #[.int .i64 0, .int .i64 0, .int .i64 0, .int .i64 0, .int .i64 0, .int .i64 0]) (t := 25) ?hr ?_; (case hd => rfl); (case hg => rfl); (case hr => first | (go_simp; done) | (go_simp; rfl)); intro gb102 hg w3 hbox hb; have n0_ := Aside0.mk (blk_below (g := gb101) (o := .cells #[.int .i64 a0_0, .int .i64 a0_1, .int .i64 a0_2, .int .i64 a0_3, .int .i64 a0_4, .int .i64 a0_5] 23 (0, 0)) (by (with_reducible repeat (first | refine blk_drewN ?_ _ | refine blk_drew ?_ | refine blk_alloc ?_ _)); exact BK101.out) hb); have n1_ := Aside0.mk (below_step (by repeat (first | (with_reducible first | exact HB.out | apply below_alloc | apply pw_below_drewN | apply below_drew1 | refine below_set ?_ GE101.out) | exact HB.out)) hb); have n2_ := Aside0.mk (hbox); have n3_ := Aside0.mk ((by rw [hg]; exact (below_size (by repeat (first | (with_reducible first | exact HB.out | apply below_alloc | apply pw_below_drewN | apply below_drew1 | refine below_set ?_ GE101.out) | exact HB.out))) : w.heap.size ≤ gb102)); have n4_ := Aside0.mk ((by rw [hg]; exact (below_size (by repeat (first | (with_reducible first | exact HB.out | apply below_alloc | apply pw_below_drewN | apply below_drew1 | refine below_set ?_ GE101.out) | exact HB.out))) : w.heap.size ≤ gb102)); have n5_ := Aside0.mk ((by rw [hg]; exact Nat.ne_of_lt (blk_lt (g := gb101) (o := .cells #[.int .i64 a0_0, .int .i64 a0_1, .int .i64 a0_2, .int .i64 a0_3, .int .i64 a0_4, .int .i64 a0_5] 23 (0, 0)) (by (with_reducible repeat (first | refine blk_drewN ?_ _ | refine blk_drew ?_ | refine blk_alloc ?_ _)); exact BK101.out)) : gb101 ≠ gb102)); have n6_ := Aside0.mk ((by rw [hg]; exact Nat.ne_of_gt (blk_lt (g := gb101) (o := .cells #[.int .i64 a0_0, .int .i64 a0_1, .int .i64 a0_2, .int .i64 a0_3, .int .i64 a0_4, .int .i64 a0_5] 23 (0, 0)) (by (with_reducible repeat (first | refine blk_drewN ?_ _ | refine blk_drew ?_ | refine blk_alloc ?_ _)); exact BK101.out)) : gb102 ≠ gb101)); clear BK101; clear HB; have BK101 := n0_; have HB := n1_; have BK102 := n2_; have GW102 := n3_; have GE102 := n4_; have NB101_102 := n5_; have NB102_101 := n6_; clear n0_ n1_ n2_ n3_ n4_ n5_ n6_; clear hb hbox hg; have hnb4 := NB101_102.out; have hnc4 := NB102_101.out; have hcz5_0 : w3.cell? ⟨gb101, 0, none⟩ = some (.int .i64 a0_0) := (blk_cell BK101.out 0).trans rfl; have hcz5_1 : w3.cell? ⟨gb101, 1, none⟩ = some (.int .i64 a0_1) := (blk_cell BK101.out 1).trans rfl; have hcz5_2 : w3.cell? ⟨gb101, 2, none⟩ = some (.int .i64 a0_2) := (blk_cell BK101.out 2).trans rfl; have hcz5_3 : w3.cell? ⟨gb101, 3, none⟩ = some (.int .i64 a0_3) := (blk_cell BK101.out 3).trans rfl; have hcz5_4 : w3.cell? ⟨gb101, 4, none⟩ = some (.int .i64 a0_4) := (blk_cell BK101.out 4).trans rfl; have hcz5_5 : w3.cell? ⟨gb101, 5, none⟩ = some (.int .i64 a0_5) := (blk_cell BK101.out 5).trans rfl; have hfz5_0 := blk_frozen BK101.out 0; have hfz5_1 := blk_frozen BK101.out 1; have hfz5_2 := blk_frozen BK101.out 2; have hfz5_3 := blk_frozen BK101.out 3; have hfz5_4 := blk_frozen BK101.out 4; have hfz5_5 := blk_frozen BK101.out 5; have hcz6_0 : w3.cell? ⟨gb102, 0, none⟩ = some (.int .i64 0) := (blk_cell BK102.out 0).trans rfl; have hcz6_1 : w3.cell? ⟨gb102, 1, none⟩ = some (.int .i64 0) := (blk_cell BK102.out 1).trans rfl; have hcz6_2 : w3.cell? ⟨gb102, 2, none⟩ = some (.int .i64 0) := (blk_cell BK102.out 2).trans rfl; have hcz6_3 : w3.cell? ⟨gb102, 3, none⟩ = some (.int .i64 0) := (blk_cell BK102.out 3).trans rfl; have hcz6_4 : w3.cell? ⟨gb102, 4, none⟩ = some (.int .i64 0) := (blk_cell BK102.out 4).trans rfl; have hcz6_5 : w3.cell? ⟨gb102, 5, none⟩ = some (.int .i64 0) := (blk_cell BK102.out 5).trans rfl; have hfz6_0 := blk_frozen BK102.out 0; have hfz6_1 := blk_frozen BK102.out 1; have hfz6_2 := blk_frozen BK102.out 2; have hfz6_3 := blk_frozen BK102.out 3; have hfz6_4 := blk_frozen BK102.out 4; have hfz6_5 := blk_frozen BK102.out 5))
  refine bodyPost_ret (results_cell_row rfl _ _ gb102 25 #[.int .i64 a0_0, .int .i64 a0_1, .int .i64 a0_2, .int .i64 a0_3, .int .i64 a0_4, .int .i64 a0_5] (0, 0) _ rfl (by (with_reducible repeat (first | refine blk_drewN ?_ _ | refine blk_drew ?_ | refine blk_alloc ?_ _)); refine blk_put (cs := #[.int .i64 a0_0, .int .i64 a0_1, .int .i64 a0_2, .int .i64 a0_3, .int .i64 a0_4, .int .i64 0]) ?_ 5 _ rfl; (with_reducible repeat (first | refine blk_drewN ?_ _ | refine blk_drew ?_ | refine blk_alloc ?_ _)); refine blk_put (cs := #[.int .i64 a0_0, .int .i64 a0_1, .int .i64 a0_2, .int .i64 a0_3, .int .i64 0, .int .i64 0]) ?_ 4 _ rfl; (with_reducible repeat (first | refine blk_drewN ?_ _ | refine blk_drew ?_ | refine blk_alloc ?_ _)); refine blk_put (cs := #[.int .i64 a0_0, .int .i64 a0_1, .int .i64 a0_2, .int .i64 0, .int .i64 0, .int .i64 0]) ?_ 3 _ rfl; (with_reducible repeat (first | refine blk_drewN ?_ _ | refine blk_drew ?_ | refine blk_alloc ?_ _)); refine blk_put (cs := #[.int .i64 a0_0, .int .i64 a0_1, .int .i64 0, .int .i64 0, .int .i64 0, .int .i64 0]) ?_ 2 _ rfl; (with_reducible repeat (first | refine blk_drewN ?_ _ | refine blk_drew ?_ | refine blk_alloc ?_ _)); refine blk_put (cs := #[.int .i64 a0_0, .int .i64 0, .int .i64 0, .int .i64 0, .int .i64 0, .int .i64 0]) ?_ 1 _ rfl; (with_reducible repeat (first | refine blk_drewN ?_ _ | refine blk_drew ?_ | refine blk_alloc ?_ _)); refine blk_put (cs := #[.int .i64 0, .int .i64 0, .int .i64 0, .int .i64 0, .int .i64 0, .int .i64 0]) ?_ 0 _ rfl; (with_reducible repeat (first | refine blk_drewN ?_ _ | refine blk_drew ?_ | refine blk_alloc ?_ _)); exact BK102.out) Tryz.underlying25 rfl (by kernel_rfl)) rfl ?_
  exact ⟨by first | rfl | (simp [errW_none, errW_some] <;> rfl) | (simp [*, errW_none, errW_some] <;> rfl), by repeat (first | (with_reducible first | exact HB.out | apply below_alloc | apply pw_below_drewN | apply below_drew1 | refine below_set ?_ GE101.out | refine below_set ?_ GE102.out) | exact HB.out)⟩
end Go.Proofs.YtkhgeonlohafgaaGreatDoor.Core
namespace Go.Proofs.YtkhgeonlohafgaaGreatDoor.Core
open Go.RowKit
theorem calls_one {P : Program} {f : FuncId} {args : Array Value} {w : World} {r r' : Value} {R R' : World → Prop} (h : Calls P f args w fun e w' => e = .returned r ∧ R w') (h' : Calls P f args w fun e w' => e = .returned r' ∧ R' w') (hi : P.inits.idxOf? f = none) : r = r' := by
  have g : ∀ {q : Value} {Q : World → Prop}, Calls P f args w (fun e w' => e = .returned q ∧ Q w') → Calls P f args w fun | .returned v, w' => v = q ∧ w' = w' | _, _ => False :=
    fun h => h.mono fun e w' h => by obtain ⟨rfl, _⟩ := h; exact ⟨rfl, rfl⟩
  obtain ⟨n, v, w1, e1, r1, _⟩ := (g h).done hi
  obtain ⟨m, v', w2, e2, r2, _⟩ := (g h').done hi
  have := runN_same_end e1 e2
  injection this with hv
  rw [← r1, ← r2, hv]
end Go.Proofs.YtkhgeonlohafgaaGreatDoor.Core
namespace Go.Proofs.YtkhgeonlohafgaaGreatDoor.Core
open Go.RowKit
def GoodC (y mo d h mi s : Int) (b : Bool) : Prop := ∀ w, Calls Tryz.prog 12 #[.agg #[.int .i64 y, .int .i64 mo, .int .i64 d, .int .i64 h, .int .i64 mi, .int .i64 s]] w fun e w' => e = .returned (.bool b) ∧ Below w.heap.size w w'
open Classical in
noncomputable def spec_MomentGood.f (y mo d h mi s : Int) : Option Bool :=
  if hx : ∃ p : Bool, GoodC y mo d h mi s p then some (Classical.choose hx) else none
theorem spec_MomentGood.calls (y mo d h mi s : Int) (r : Bool) (w : World) (hf : spec_MomentGood.f y mo d h mi s = some r) :
    Calls Tryz.prog 12 #[.agg #[.int .i64 y, .int .i64 mo, .int .i64 d, .int .i64 h, .int .i64 mi, .int .i64 s]] w fun e w' => e = .returned (.bool r) ∧ Below w.heap.size w w' := by
  unfold spec_MomentGood.f at hf
  split at hf
  · rename_i hx
    have hp := Classical.choose_spec hx
    rw [Option.some.inj hf] at hp
    exact hp w
  · cases hf
theorem GoodC.eq {y mo d h mi s : Int} {b : Bool} (hd : GoodC y mo d h mi s b) : spec_MomentGood.f y mo d h mi s = some b := by
  have hx : ∃ p : Bool, GoodC y mo d h mi s p := ⟨b, hd⟩
  unfold spec_MomentGood.f
  rw [dif_pos hx]
  have hp := Classical.choose_spec hx
  have e := calls_one (hp default) (hd default) (by kernel_rfl)
  injection e with e
  rw [e]
end Go.Proofs.YtkhgeonlohafgaaGreatDoor.Core
namespace Go.Proofs.YtkhgeonlohafgaaGreatDoor.Core
open Go.RowKit Go.Proofs.YtkhgeonlohafgaaGreatDoorW.PrintWords
def PartsC (t : ByteArray) (P : List ByteArray) (ok : Bool) : Prop := ∀ w, Calls Tryz.prog 23 #[.string t] w fun e w' => ∃ v0_ : Value, e = .returned (.tuple #[v0_, .bool ok]) ∧ Kd.R Kd.string 9 w' w.heap.size (fun _ => True) v0_ P ∧ Below w.heap.size w w'
open Classical in
noncomputable def impl_PartsE.f (t : ByteArray) : Option (List ByteArray × Bool) :=
  if hx : ∃ p : List ByteArray × Bool, PartsC t p.1 p.2 then some (Classical.choose hx) else none
theorem impl_PartsE.calls (a0 : ByteArray) (r1 : List ByteArray) (r2 : Bool) (w : World) (h : impl_PartsE.f a0 = some (r1, r2)) :
    Calls Tryz.prog 23 #[.string a0] w fun e w' => ∃ v0_ : Value, e = .returned (.tuple #[v0_, .bool r2]) ∧ Kd.R Kd.string 9 w' w.heap.size (fun _ => True) v0_ r1 ∧ Below w.heap.size w w' := by
  unfold impl_PartsE.f at h
  split at h
  · rename_i hx
    have hp := Classical.choose_spec hx
    rw [Option.some.inj h] at hp
    exact hp w
  · cases h
theorem PartsC.eq {t : ByteArray} {P : List ByteArray} {ok : Bool} (hd : PartsC t P ok) : ∃ Q, impl_PartsE.f t = some (Q, ok) := by
  have hx : ∃ p : List ByteArray × Bool, PartsC t p.1 p.2 := ⟨(P, ok), hd⟩
  unfold impl_PartsE.f
  rw [dif_pos hx]
  have hp := Classical.choose_spec hx
  generalize Classical.choose hx = q at hp
  obtain ⟨Q, ok'⟩ := q
  refine ⟨Q, ?_⟩
  have g : ∀ {P : List ByteArray} {ok : Bool}, PartsC t P ok → Calls Tryz.prog 23 #[.string t] default fun | .returned v, w' => (∃ v0, v = .tuple #[v0, .bool ok]) ∧ w' = w' | _, _ => False :=
    fun h => (h default).mono fun e w' h => by obtain ⟨v0, rfl, _, _⟩ := h; exact ⟨⟨v0, rfl⟩, rfl⟩
  obtain ⟨n, v, w1, e1, ⟨v0, r1⟩, _⟩ := (g hp).done (by kernel_rfl)
  obtain ⟨m, v', w2, e2, ⟨v1, r2⟩, _⟩ := (g hd).done (by kernel_rfl)
  have := runN_same_end e1 e2
  injection this with hv
  rw [r1, r2] at hv
  injection hv with hv
  simp at hv
  rw [hv.2]
end Go.Proofs.YtkhgeonlohafgaaGreatDoor.Core
namespace Go.Proofs.YtkhgeonlohafgaaGreatDoor.Core
open Go.RowKit
def ValidC (t : ByteArray) (y mo d h mi s : Int) (b : Bool) : Prop := ∀ w, Calls Tryz.prog 14 #[.string t, .agg #[.int .i64 y, .int .i64 mo, .int .i64 d, .int .i64 h, .int .i64 mi, .int .i64 s]] w fun e w' => e = .returned (.bool b) ∧ Below w.heap.size w w'
open Classical in
noncomputable def impl_Valid.f (t : ByteArray) (y mo d h mi s : Int) : Option Bool :=
  if hx : ∃ p : Bool, ValidC t y mo d h mi s p then some (Classical.choose hx) else none
theorem impl_Valid.calls (t : ByteArray) (y mo d h mi s : Int) (r : Bool) (w : World) (hf : impl_Valid.f t y mo d h mi s = some r) :
    Calls Tryz.prog 14 #[.string t, .agg #[.int .i64 y, .int .i64 mo, .int .i64 d, .int .i64 h, .int .i64 mi, .int .i64 s]] w fun e w' => e = .returned (.bool r) ∧ Below w.heap.size w w' := by
  unfold impl_Valid.f at hf
  split at hf
  · rename_i hx
    have hp := Classical.choose_spec hx
    rw [Option.some.inj hf] at hp
    exact hp w
  · cases hf
theorem ValidC.eq {t : ByteArray} {y mo d h mi s : Int} {b : Bool} (hd : ValidC t y mo d h mi s b) : impl_Valid.f t y mo d h mi s = some b := by
  have hx : ∃ p : Bool, ValidC t y mo d h mi s p := ⟨b, hd⟩
  unfold impl_Valid.f
  rw [dif_pos hx]
  have hp := Classical.choose_spec hx
  have e := calls_one (hp default) (hd default) (by kernel_rfl)
  injection e with e
  rw [e]
end Go.Proofs.YtkhgeonlohafgaaGreatDoor.Core
namespace Go.Proofs.YtkhgeonlohafgaaGreatDoor.Core
open Go.RowKit Go.Proofs.YtkhgeonlohafgaaGreatDoorW.PrintWords Go.Proofs.YtkhgeonlohafgaaGreatDoorW.PrintLast Go.Proofs.YtkhgeonlohafgaaGreatDoorW.PrintMore
attribute [local go_sem] max2_int min2_int max_two min_two max_three min_three max_four min_four   -- for this text's walks alone
set_option linter.unusedVariables false
set_option linter.unusedSimpArgs false
mutual
noncomputable def laws_FnFew.j0 : Nat → Int → Bool → Int → Int → Int → Int → Int → Int → Option (Bool)
  | 0, _, _, _, _, _, _, _, _ => none
  | k + 1, x0, x19, x104000, x104001, x104002, x104003, x104004, x104005 => if x19 = true then (some true) else (laws_FnFew.l0 k x0 (⟨#[42]⟩ : ByteArray) (wrap64 (x0 - 1)) 0 x104000 x104001 x104002 x104003 x104004 x104005)
noncomputable def laws_FnFew.l0 : Nat → Int → ByteArray → Int → Int → Int → Int → Int → Int → Int → Int → Option (Bool)
  | 0, _, _, _, _, _, _, _, _, _, _ => none
  | k + 1, x0, x5, x21, x22, x104000, x104001, x104002, x104003, x104004, x104005 => if x22 < x21 then (if x5.size + 2 ≤ 9223372036854775807 then (laws_FnFew.l0 k x0 (x5 ++ (⟨#[32, 42]⟩ : ByteArray)) x21 (wrap64 (x22 + 1)) x104000 x104001 x104002 x104003 x104004 x104005) else (none)) else ((impl_PartsE.f x5).bind fun bt111 => (if x0 ≥ 5 then (if (bt111.2 == (decide (x0 ≤ 7))) = true then (if bt111.2 = true then ((impl_Valid.f (⟨#[42, 32, 42, 32, 42, 32, 42, 32, 42]⟩ : ByteArray) x104000 x104001 x104002 x104003 x104004 x104005).bind fun t115 => (some t115)) else ((impl_Valid.f x5 x104000 x104001 x104002 x104003 x104004 x104005).bind fun t116 => (if t116 = true then (some false) else ((impl_Valid.f (⟨#[42, 32, 42, 32, 42, 32, 42, 32, 42]⟩ : ByteArray) x104000 x104001 x104002 x104003 x104004 x104005).bind fun t117 => (some t117))))) else (some false)) else (if (bt111.2 == false) = true then (if bt111.2 = true then ((impl_Valid.f (⟨#[42, 32, 42, 32, 42, 32, 42, 32, 42]⟩ : ByteArray) x104000 x104001 x104002 x104003 x104004 x104005).bind fun t118 => (some t118)) else ((impl_Valid.f x5 x104000 x104001 x104002 x104003 x104004 x104005).bind fun t119 => (if t119 = true then (some false) else ((impl_Valid.f (⟨#[42, 32, 42, 32, 42, 32, 42, 32, 42]⟩ : ByteArray) x104000 x104001 x104002 x104003 x104004 x104005).bind fun t120 => (some t120))))) else (some false))))
end
noncomputable def laws_FnFew.f (k : Nat) (a0 : Int) (a1_0 : Int) (a1_1 : Int) (a1_2 : Int) (a1_3 : Int) (a1_4 : Int) (a1_5 : Int) : Option (Bool) := if a0 < 1 then (laws_FnFew.j0 k a0 true a1_0 a1_1 a1_2 a1_3 a1_4 a1_5) else (if a0 > 12 then (laws_FnFew.j0 k a0 true a1_0 a1_1 a1_2 a1_3 a1_4 a1_5) else ((laws_moment.f a1_0 a1_1 a1_2 a1_3 a1_4 a1_5).bind fun bt104 => ((spec_MomentGood.f bt104.1 bt104.2.1 bt104.2.2.1 bt104.2.2.2.1 bt104.2.2.2.2.1 bt104.2.2.2.2.2).bind fun t110 => (laws_FnFew.j0 k a0 (!t110) a1_0 a1_1 a1_2 a1_3 a1_4 a1_5))))
set_option maxHeartbeats 8000000 in
set_option maxRecDepth 100000 in
theorem laws_FnFew.calls (k : Nat) (a0 : Int) (a1_0 : Int) (a1_1 : Int) (a1_2 : Int) (a1_3 : Int) (a1_4 : Int) (a1_5 : Int) (r : Bool) (w : World) (h : laws_FnFew.f k a0 a1_0 a1_1 a1_2 a1_3 a1_4 a1_5 = some r) :
    Calls Tryz.prog 5 #[.int .i64 a0, .agg #[.int .i64 a1_0, .int .i64 a1_1, .int .i64 a1_2, .int .i64 a1_3, .int .i64 a1_4, .int .i64 a1_5]] w fun e w' => e = .returned (.bool r) ∧ Below w.heap.size w w' := by
  have hu23 := Tryz.underlying23
  have HB := Aside0.mk (Below.refl w.heap.size w)
  have H : (if a0 < 1 then (laws_FnFew.j0 k a0 true a1_0 a1_1 a1_2 a1_3 a1_4 a1_5) else (if a0 > 12 then (laws_FnFew.j0 k a0 true a1_0 a1_1 a1_2 a1_3 a1_4 a1_5) else ((laws_moment.f a1_0 a1_1 a1_2 a1_3 a1_4 a1_5).bind fun bt104 => ((spec_MomentGood.f bt104.1 bt104.2.1 bt104.2.2.1 bt104.2.2.2.1 bt104.2.2.2.2.1 bt104.2.2.2.2.2).bind fun t110 => (laws_FnFew.j0 k a0 (!t110) a1_0 a1_1 a1_2 a1_3 a1_4 a1_5))))) = some r := h
  clear h
  have HC3 := Aside0.mk H
  clear H
  go_enter Tryz.func5, Tryz.ntmps5
  go_upto_region 1 with (first | ((with_reducible refine gate_dst (N := 3) rfl ?_); refine box_event ?hg (N := 3) ?hd (cs := #[.int .i64 a1_0, .int .i64 a1_1, .int .i64 a1_2, .int .i64 a1_3, .int .i64 a1_4, .int .i64 a1_5]) (t := 23) ?hr ?_; (case hd => rfl); (case hg => rfl); (case hr => first | (go_simp; done) | (go_simp; rfl)); intro gb103 hg w4 hbox hb; have n0_ := Aside0.mk (below_step (by repeat (first | (with_reducible first | exact HB.out | apply below_alloc | apply pw_below_drewN | apply below_drew1) | exact HB.out)) hb); have n1_ := Aside0.mk (hbox); have n2_ := Aside0.mk ((by rw [hg]; exact (below_size (by repeat (first | (with_reducible first | exact HB.out | apply below_alloc | apply pw_below_drewN | apply below_drew1) | exact HB.out))) : w.heap.size ≤ gb103)); have n3_ := Aside0.mk ((by rw [hg]; exact (below_size (by repeat (first | (with_reducible first | exact HB.out | apply below_alloc | apply pw_below_drewN | apply below_drew1) | exact HB.out))) : w.heap.size ≤ gb103)); clear HB; have HB := n0_; have BK103 := n1_; have GW103 := n2_; have GE103 := n3_; clear n0_ n1_ n2_ n3_; clear hb hbox hg))
  (try simp only [Act.put, List.setIfInBounds_toArray, List.set_cons_zero, List.set_cons_succ])
  go_cut [19] (fun v19 wc => ∃ (kq : Nat) (x19_2 : Bool), v19 = .bool x19_2 ∧ Aside0 (laws_FnFew.j0 kq a0 x19_2 a1_0 a1_1 a1_2 a1_3 a1_4 a1_5 = some r) ∧ Aside0 (kq ≤ k) ∧ Aside0 (wc.heap[gb103]? = some (.cells #[.int .i64 a1_0, .int .i64 a1_1, .int .i64 a1_2, .int .i64 a1_3, .int .i64 a1_4, .int .i64 a1_5] 23 (0, 0))) ∧ Aside0 (Below w.heap.size w wc))
  case first =>
    have H := HC3.out
    clear HC3
    by_cases c5 : a0 < 1
    · rw [if_pos c5] at H
      have c5b0 : decide (a0 < 1) = true := decide_eq_true c5
      clear c5
      (first | rw [c5b0] | (simp only [i64_w, i32_w]; rw [c5b0]) | skip)
      have H' := Aside0.mk H
      clear H
      go_wp2
      go_meet
      case rel => exact ⟨_, (true), (by first | rfl | (simp; done) | (simp [*]; done)), H', ⟨by first | omega | exact Nat.le_refl _⟩, ⟨by (with_reducible repeat (first | refine blk_drewN ?_ _ | refine blk_drew ?_ | refine blk_alloc ?_ _)); exact BK103.out⟩, ⟨by repeat (first | (with_reducible first | exact HB.out | apply below_alloc | apply pw_below_drewN | apply below_drew1 | refine below_set ?_ GE103.out) | exact HB.out)⟩⟩
    · rw [if_neg c5] at H
      have c5b0 : decide (a0 < 1) = false := decide_eq_false c5
      clear c5
      (first | rw [c5b0] | (simp only [i64_w, i32_w]; rw [c5b0]) | skip)
      by_cases c6 : a0 > 12
      · rw [if_pos c6] at H
        have c6b0 : decide (12 < a0) = true := decide_eq_true c6
        clear c6
        have H' := Aside0.mk H
        clear H
        go_wp2
        go_meet
        case rel => exact ⟨_, (true), (by first | rfl | (simp; done) | (simp [*]; done)), H', ⟨by first | omega | exact Nat.le_refl _⟩, ⟨by (with_reducible repeat (first | refine blk_drewN ?_ _ | refine blk_drew ?_ | refine blk_alloc ?_ _)); exact BK103.out⟩, ⟨by repeat (first | (with_reducible first | exact HB.out | apply below_alloc | apply pw_below_drewN | apply below_drew1 | refine below_set ?_ GE103.out) | exact HB.out)⟩⟩
      · rw [if_neg c6] at H
        have c6b0 : decide (12 < a0) = false := decide_eq_false c6
        clear c6
        replace H := Option.bind_eq_some_iff.mp H
        obtain ⟨⟨t104, t105, t106, t107, t108, t109⟩, A70, H⟩ := H
        replace H : ((spec_MomentGood.f t104 t105 t106 t107 t108 t109).bind fun t110 => (laws_FnFew.j0 k a0 (!t110) a1_0 a1_1 a1_2 a1_3 a1_4 a1_5)) = some r := H
        have A7 := Aside0.mk A70
        clear A70
        replace H := Option.bind_eq_some_iff.mp H
        obtain ⟨t110, A80, H⟩ := H
        replace H : (laws_FnFew.j0 k a0 (!t110) a1_0 a1_1 a1_2 a1_3 a1_4 a1_5) = some r := H
        have A8 := Aside0.mk A80
        clear A80
        have H' := Aside0.mk H
        clear H
        have hcz9_0 : w4.cell? ⟨gb103, 0, none⟩ = some (.int .i64 a1_0) := (blk_cell BK103.out 0).trans rfl
        have hcz9_1 : w4.cell? ⟨gb103, 1, none⟩ = some (.int .i64 a1_1) := (blk_cell BK103.out 1).trans rfl
        have hcz9_2 : w4.cell? ⟨gb103, 2, none⟩ = some (.int .i64 a1_2) := (blk_cell BK103.out 2).trans rfl
        have hcz9_3 : w4.cell? ⟨gb103, 3, none⟩ = some (.int .i64 a1_3) := (blk_cell BK103.out 3).trans rfl
        have hcz9_4 : w4.cell? ⟨gb103, 4, none⟩ = some (.int .i64 a1_4) := (blk_cell BK103.out 4).trans rfl
        have hcz9_5 : w4.cell? ⟨gb103, 5, none⟩ = some (.int .i64 a1_5) := (blk_cell BK103.out 5).trans rfl
        have hfz9_0 := blk_frozen BK103.out 0
        have hfz9_1 := blk_frozen BK103.out 1
        have hfz9_2 := blk_frozen BK103.out 2
        have hfz9_3 := blk_frozen BK103.out 3
        have hfz9_4 := blk_frozen BK103.out 4
        have hfz9_5 := blk_frozen BK103.out 5
        go_wp2_with (first | (go_at_call 13; (with_reducible refine (laws_moment.calls a1_0 a1_1 a1_2 a1_3 a1_4 a1_5 t104 t105 t106 t107 t108 t109 _ A7.out).mono ?_); rintro e w10 ⟨rfl, hb⟩; have n0_ := Aside0.mk (blk_below (g := gb103) (o := .cells #[.int .i64 a1_0, .int .i64 a1_1, .int .i64 a1_2, .int .i64 a1_3, .int .i64 a1_4, .int .i64 a1_5] 23 (0, 0)) (by (with_reducible repeat (first | refine blk_drewN ?_ _ | refine blk_drew ?_ | refine blk_alloc ?_ _)); exact BK103.out) hb); have n1_ := Aside0.mk (below_step (by repeat (first | (with_reducible first | exact HB.out | apply below_alloc | apply pw_below_drewN | apply below_drew1 | refine below_set ?_ GE103.out) | exact HB.out)) hb); clear BK103; clear HB; have BK103 := n0_; have HB := n1_; clear n0_ n1_; (try clear hb); (try clear hb2); (try clear hk); (try clear hi)) | (go_at_call 12; (with_reducible refine (spec_MomentGood.calls t104 t105 t106 t107 t108 t109 t110 _ A8.out).mono ?_); rintro e w11 ⟨rfl, hb⟩; have n0_ := Aside0.mk (blk_below (g := gb103) (o := .cells #[.int .i64 a1_0, .int .i64 a1_1, .int .i64 a1_2, .int .i64 a1_3, .int .i64 a1_4, .int .i64 a1_5] 23 (0, 0)) (by (with_reducible repeat (first | refine blk_drewN ?_ _ | refine blk_drew ?_ | refine blk_alloc ?_ _)); exact BK103.out) hb); have n1_ := Aside0.mk (below_step (by repeat (first | (with_reducible first | exact HB.out | apply below_alloc | apply pw_below_drewN | apply below_drew1 | refine below_set ?_ GE103.out) | exact HB.out)) hb); clear BK103; clear HB; have BK103 := n0_; have HB := n1_; clear n0_ n1_; (try clear hb); (try clear hb2); (try clear hk); (try clear hi)))
        go_meet
        case rel => exact ⟨_, (!t110), (by first | rfl | (simp; done) | (simp [*]; done)), H', ⟨by first | omega | exact Nat.le_refl _⟩, ⟨by (with_reducible repeat (first | refine blk_drewN ?_ _ | refine blk_drew ?_ | refine blk_alloc ?_ _)); exact BK103.out⟩, ⟨by repeat (first | (with_reducible first | exact HB.out | apply below_alloc | apply pw_below_drewN | apply below_drew1 | refine below_set ?_ GE103.out) | exact HB.out)⟩⟩
  case rest =>
    clear HC3
    try clear p2
    try clear c5
    try clear c5b0
    try clear c6
    try clear c6b0
    try clear hcz9_0
    try clear hcz9_1
    try clear hcz9_2
    try clear hcz9_3
    try clear hcz9_4
    try clear hcz9_5
    try clear hfz9_0
    try clear hfz9_1
    try clear hfz9_2
    try clear hfz9_3
    try clear hfz9_4
    try clear hfz9_5
    obtain ⟨kq, x19_2, rfl, HA, HJ2, BK103, HB⟩ := hcut
    cases kq with
    | zero => exact absurd HA.out (by simp [laws_FnFew.j0])
    | succ kj2 =>
      have H := HA.out
      clear HA
      simp only [laws_FnFew.j0] at H
      by_cases c12 : x19_2 = true
      · subst c12
        have H1 : (some true) = some r := by rw [if_pos rfl] at H; exact H
        clear H
        have H := H1
        clear H1
        obtain rfl := Option.some.inj H
        go_wp2
        go_ret
        exact ⟨by first | rfl | (simp [errW_none, errW_some] <;> rfl) | (simp [*, errW_none, errW_some] <;> rfl), by repeat (first | (with_reducible first | exact HB.out | apply below_alloc | apply pw_below_drewN | apply below_drew1 | refine below_set ?_ GE103.out) | exact HB.out)⟩
      · replace c12 := Bool.eq_false_iff.mpr c12
        subst c12
        have H1 : (laws_FnFew.l0 kj2 a0 (⟨#[42]⟩ : ByteArray) (wrap64 (a0 - 1)) 0 a1_0 a1_1 a1_2 a1_3 a1_4 a1_5) = some r := by rw [if_neg (show ¬ (false = true) by decide)] at H; exact H
        clear H
        have H := H1
        clear H1
        have H' := Aside0.mk H
        clear H
        go_wp2
        go_loopg [5, 22] kj2 (fun kq v5 v22 w' => ∃ (x5_2 : ByteArray) (x22_2 : Int), v5 = .string x5_2 ∧ v22 = .int .i64 x22_2 ∧ Aside0 (laws_FnFew.l0 kq a0 x5_2 (wrap64 (a0 - 1)) x22_2 a1_0 a1_1 a1_2 a1_3 a1_4 a1_5 = some r) ∧ Aside0 (kq ≤ kj2) ∧ Aside0 (w'.heap[gb103]? = some (.cells #[.int .i64 a1_0, .int .i64 a1_1, .int .i64 a1_2, .int .i64 a1_3, .int .i64 a1_4, .int .i64 a1_5] 23 (0, 0))) ∧ Aside0 (Below w.heap.size w w'))
        case atStart => exact ⟨((⟨#[42]⟩ : ByteArray)), (0), (by first | rfl | (simp; done) | (simp [*]; done)), (by first | rfl | (simp; done) | (simp [*]; done)), H', ⟨Nat.le_refl _⟩, ⟨by (with_reducible repeat (first | refine blk_drewN ?_ _ | refine blk_drew ?_ | refine blk_alloc ?_ _)); exact BK103.out⟩, ⟨by repeat (first | (with_reducible first | exact HB.out | apply below_alloc | apply pw_below_drewN | apply below_drew1 | refine below_set ?_ GE103.out) | exact HB.out)⟩⟩
        case round =>
          clear H'
          try clear c1
          try clear p2
          try clear c5
          try clear c5b0
          try clear c6
          try clear c6b0
          try clear p6
          try clear c12
          try clear hcz9_0
          try clear hcz9_1
          try clear hcz9_2
          try clear hcz9_3
          try clear hcz9_4
          try clear hcz9_5
          try clear hfz9_0
          try clear hfz9_1
          try clear hfz9_2
          try clear hfz9_3
          try clear hfz9_4
          try clear hfz9_5
          try clear p2
          obtain ⟨x5_2, x22_2, rfl, rfl, HA, HK2, BK103, HB⟩ := hrel
          cases gk with
          | zero => exact absurd HA.out (by simp [laws_FnFew.l0])
          | succ k2 =>
            have H := HA.out
            clear HA
            simp only [laws_FnFew.l0] at H
            by_cases c13 : x22_2 < (wrap64 (a0 - 1))
            · rw [if_pos c13] at H
              have c13b0 : decide (x22_2 < (wrap64 (a0 - 1))) = true := decide_eq_true c13
              clear c13
              by_cases c14 : x5_2.size + 2 ≤ 9223372036854775807
              · rw [if_pos c14] at H
                have c14b0 := eq_true c14
                have c14b1 : decide (x5_2.size + 2 ≤ 9223372036854775807) = true := decide_eq_true c14
                try have c14b2 : (9223372036854775807 < x5_2.size + 2) = False := eq_false (Nat.not_lt.2 c14)
                have H' := Aside0.mk H
                clear H
                go_wp2
                go_roundg k2
                case measure => have := HJ2.out; have := HK2.out; omega
                case rel => exact ⟨(x5_2 ++ (⟨#[32, 42]⟩ : ByteArray)), (wrap64 (x22_2 + 1)), (by first | rfl | (simp; done) | (simp [*]; done)), (by first | rfl | (simp; done) | (simp [*]; done)), H', ⟨by have := HJ2.out; have := HK2.out; omega⟩, ⟨by (with_reducible repeat (first | refine blk_drewN ?_ _ | refine blk_drew ?_ | refine blk_alloc ?_ _)); exact BK103.out⟩, ⟨by repeat (first | (with_reducible first | exact HB.out | apply below_alloc | apply pw_below_drewN | apply below_drew1 | refine below_set ?_ GE103.out) | exact HB.out)⟩⟩
              · rw [if_neg c14] at H
                exact absurd H (by simp)
            · rw [if_neg c13] at H
              have c13b0 : decide (x22_2 < (wrap64 (a0 - 1))) = false := decide_eq_false c13
              clear c13
              replace H := Option.bind_eq_some_iff.mp H
              obtain ⟨⟨t111, t112⟩, A150, H⟩ := H
              replace H : (if a0 ≥ 5 then (if (t112 == (decide (a0 ≤ 7))) = true then (if t112 = true then ((impl_Valid.f (⟨#[42, 32, 42, 32, 42, 32, 42, 32, 42]⟩ : ByteArray) a1_0 a1_1 a1_2 a1_3 a1_4 a1_5).bind fun t115 => (some t115)) else ((impl_Valid.f x5_2 a1_0 a1_1 a1_2 a1_3 a1_4 a1_5).bind fun t116 => (if t116 = true then (some false) else ((impl_Valid.f (⟨#[42, 32, 42, 32, 42, 32, 42, 32, 42]⟩ : ByteArray) a1_0 a1_1 a1_2 a1_3 a1_4 a1_5).bind fun t117 => (some t117))))) else (some false)) else (if (t112 == false) = true then (if t112 = true then ((impl_Valid.f (⟨#[42, 32, 42, 32, 42, 32, 42, 32, 42]⟩ : ByteArray) a1_0 a1_1 a1_2 a1_3 a1_4 a1_5).bind fun t118 => (some t118)) else ((impl_Valid.f x5_2 a1_0 a1_1 a1_2 a1_3 a1_4 a1_5).bind fun t119 => (if t119 = true then (some false) else ((impl_Valid.f (⟨#[42, 32, 42, 32, 42, 32, 42, 32, 42]⟩ : ByteArray) a1_0 a1_1 a1_2 a1_3 a1_4 a1_5).bind fun t120 => (some t120))))) else (some false))) = some r := H
              have A15 := Aside0.mk A150
              clear A150
              by_cases c16 : a0 ≥ 5
              · rw [if_pos c16] at H
                have c16b0 : decide (5 ≤ a0) = true := decide_eq_true c16
                clear c16
                by_cases c17 : (t112 == (decide (a0 ≤ 7))) = true
                · rw [if_pos c17] at H
                  have c17b0 : (t112 == (decide (a0 ≤ 7))) = true := c17
                  (try (have c17b1 : decide (t112 = (decide (a0 ≤ 7))) = true := by simpa using c17))
                  (try (have c17b2 : (t112 == (decide (a0 ≤ 7))) = true := by simpa using c17))
                  clear c17
                  by_cases c18 : t112 = true
                  · subst c18
                    have H1 : ((impl_Valid.f (⟨#[42, 32, 42, 32, 42, 32, 42, 32, 42]⟩ : ByteArray) a1_0 a1_1 a1_2 a1_3 a1_4 a1_5).bind fun t115 => (some t115)) = some r := by rw [if_pos rfl] at H; exact H
                    clear H
                    have H := H1
                    clear H1
                    replace H := Option.bind_eq_some_iff.mp H
                    obtain ⟨t115, A190, H⟩ := H
                    replace H : (some t115) = some r := H
                    have A19 := Aside0.mk A190
                    clear A190
                    obtain rfl := Option.some.inj H
                    go_wp2_with (first | ((with_reducible refine gate_callee (f := 23) rfl ?_); refine goesL_ (some 29) rfl rfl Tryz.func23 (by kernel_rfl) rfl #[.string x5_2] rfl (by (try simp only [List.map_toArray, List.map_cons, List.map_nil]); first | done | rfl | (simp only [List.length_drop, List.length_take]; rfl)) ?_; (with_reducible refine (impl_PartsE.calls x5_2 t111 true _ A15.out).mono ?_); rintro e w20 ⟨v113, rfl, ho0, hb⟩; refine ⟨_, rfl, ?_⟩; have n0_ := Aside0.mk (Kd.R_lower ho0 (below_size (by repeat (first | (with_reducible first | exact HB.out | apply below_alloc | apply pw_below_drewN | apply below_drew1 | refine below_set ?_ GE103.out) | exact HB.out)))); have n1_ := Aside0.mk (blk_below (g := gb103) (o := .cells #[.int .i64 a1_0, .int .i64 a1_1, .int .i64 a1_2, .int .i64 a1_3, .int .i64 a1_4, .int .i64 a1_5] 23 (0, 0)) (by (with_reducible repeat (first | refine blk_drewN ?_ _ | refine blk_drew ?_ | refine blk_alloc ?_ _)); exact BK103.out) hb); have n2_ := Aside0.mk (below_step (by repeat (first | (with_reducible first | exact HB.out | apply below_alloc | apply pw_below_drewN | apply below_drew1 | refine below_set ?_ GE103.out) | exact HB.out)) hb); clear BK103; clear HB; have HO114 := n0_; have BK103 := n1_; have HB := n2_; clear n0_ n1_ n2_; (try clear hb); (try clear hb2); (try clear hk); (try clear hi); (try clear ho0); have hcz21_0 : w20.cell? ⟨gb103, 0, none⟩ = some (.int .i64 a1_0) := (blk_cell BK103.out 0).trans rfl; have hcz21_1 : w20.cell? ⟨gb103, 1, none⟩ = some (.int .i64 a1_1) := (blk_cell BK103.out 1).trans rfl; have hcz21_2 : w20.cell? ⟨gb103, 2, none⟩ = some (.int .i64 a1_2) := (blk_cell BK103.out 2).trans rfl; have hcz21_3 : w20.cell? ⟨gb103, 3, none⟩ = some (.int .i64 a1_3) := (blk_cell BK103.out 3).trans rfl; have hcz21_4 : w20.cell? ⟨gb103, 4, none⟩ = some (.int .i64 a1_4) := (blk_cell BK103.out 4).trans rfl; have hcz21_5 : w20.cell? ⟨gb103, 5, none⟩ = some (.int .i64 a1_5) := (blk_cell BK103.out 5).trans rfl; have hfz21_0 := blk_frozen BK103.out 0; have hfz21_1 := blk_frozen BK103.out 1; have hfz21_2 := blk_frozen BK103.out 2; have hfz21_3 := blk_frozen BK103.out 3; have hfz21_4 := blk_frozen BK103.out 4; have hfz21_5 := blk_frozen BK103.out 5) | (go_at_call 14; (with_reducible refine (impl_Valid.calls (⟨#[42, 32, 42, 32, 42, 32, 42, 32, 42]⟩ : ByteArray) a1_0 a1_1 a1_2 a1_3 a1_4 a1_5 t115 _ A19.out).mono ?_); rintro e w22 ⟨rfl, hb⟩; have n0_ := Aside0.mk (Kd.R_below (by (with_reducible repeat (first | apply Kd.R_alloc | apply Kd.R_drewN | apply Kd.R_drew)); exact HO114.out) hb); have n1_ := Aside0.mk (blk_below (g := gb103) (o := .cells #[.int .i64 a1_0, .int .i64 a1_1, .int .i64 a1_2, .int .i64 a1_3, .int .i64 a1_4, .int .i64 a1_5] 23 (0, 0)) (by (with_reducible repeat (first | refine blk_drewN ?_ _ | refine blk_drew ?_ | refine blk_alloc ?_ _)); exact BK103.out) hb); have n2_ := Aside0.mk (below_step (by repeat (first | (with_reducible first | exact HB.out | apply below_alloc | apply pw_below_drewN | apply below_drew1 | refine below_set ?_ GE103.out) | exact HB.out)) hb); clear HO114; clear BK103; clear HB; have HO114 := n0_; have BK103 := n1_; have HB := n2_; clear n0_ n1_ n2_; (try clear hb); (try clear hb2); (try clear hk); (try clear hi)))
                    go_ret
                    exact ⟨by first | rfl | (simp [errW_none, errW_some] <;> rfl) | (simp [*, errW_none, errW_some] <;> rfl), by repeat (first | (with_reducible first | exact HB.out | apply below_alloc | apply pw_below_drewN | apply below_drew1 | refine below_set ?_ GE103.out) | exact HB.out)⟩
                  · replace c18 := Bool.eq_false_iff.mpr c18
                    subst c18
                    have H1 : ((impl_Valid.f x5_2 a1_0 a1_1 a1_2 a1_3 a1_4 a1_5).bind fun t116 => (if t116 = true then (some false) else ((impl_Valid.f (⟨#[42, 32, 42, 32, 42, 32, 42, 32, 42]⟩ : ByteArray) a1_0 a1_1 a1_2 a1_3 a1_4 a1_5).bind fun t117 => (some t117)))) = some r := by rw [if_neg (show ¬ (false = true) by decide)] at H; exact H
                    clear H
                    have H := H1
                    clear H1
                    replace H := Option.bind_eq_some_iff.mp H
                    obtain ⟨t116, A230, H⟩ := H
                    replace H : (if t116 = true then (some false) else ((impl_Valid.f (⟨#[42, 32, 42, 32, 42, 32, 42, 32, 42]⟩ : ByteArray) a1_0 a1_1 a1_2 a1_3 a1_4 a1_5).bind fun t117 => (some t117))) = some r := H
                    have A23 := Aside0.mk A230
                    clear A230
                    by_cases c24 : t116 = true
                    · subst c24
                      have H1 : (some false) = some r := by rw [if_pos rfl] at H; exact H
                      clear H
                      have H := H1
                      clear H1
                      obtain rfl := Option.some.inj H
                      go_wp2_with (first | ((with_reducible refine gate_callee (f := 23) rfl ?_); refine goesL_ (some 29) rfl rfl Tryz.func23 (by kernel_rfl) rfl #[.string x5_2] rfl (by (try simp only [List.map_toArray, List.map_cons, List.map_nil]); first | done | rfl | (simp only [List.length_drop, List.length_take]; rfl)) ?_; (with_reducible refine (impl_PartsE.calls x5_2 t111 false _ A15.out).mono ?_); rintro e w25 ⟨v113, rfl, ho0, hb⟩; refine ⟨_, rfl, ?_⟩; have n0_ := Aside0.mk (Kd.R_lower ho0 (below_size (by repeat (first | (with_reducible first | exact HB.out | apply below_alloc | apply pw_below_drewN | apply below_drew1 | refine below_set ?_ GE103.out) | exact HB.out)))); have n1_ := Aside0.mk (blk_below (g := gb103) (o := .cells #[.int .i64 a1_0, .int .i64 a1_1, .int .i64 a1_2, .int .i64 a1_3, .int .i64 a1_4, .int .i64 a1_5] 23 (0, 0)) (by (with_reducible repeat (first | refine blk_drewN ?_ _ | refine blk_drew ?_ | refine blk_alloc ?_ _)); exact BK103.out) hb); have n2_ := Aside0.mk (below_step (by repeat (first | (with_reducible first | exact HB.out | apply below_alloc | apply pw_below_drewN | apply below_drew1 | refine below_set ?_ GE103.out) | exact HB.out)) hb); clear BK103; clear HB; have HO114 := n0_; have BK103 := n1_; have HB := n2_; clear n0_ n1_ n2_; (try clear hb); (try clear hb2); (try clear hk); (try clear hi); (try clear ho0); have hcz26_0 : w25.cell? ⟨gb103, 0, none⟩ = some (.int .i64 a1_0) := (blk_cell BK103.out 0).trans rfl; have hcz26_1 : w25.cell? ⟨gb103, 1, none⟩ = some (.int .i64 a1_1) := (blk_cell BK103.out 1).trans rfl; have hcz26_2 : w25.cell? ⟨gb103, 2, none⟩ = some (.int .i64 a1_2) := (blk_cell BK103.out 2).trans rfl; have hcz26_3 : w25.cell? ⟨gb103, 3, none⟩ = some (.int .i64 a1_3) := (blk_cell BK103.out 3).trans rfl; have hcz26_4 : w25.cell? ⟨gb103, 4, none⟩ = some (.int .i64 a1_4) := (blk_cell BK103.out 4).trans rfl; have hcz26_5 : w25.cell? ⟨gb103, 5, none⟩ = some (.int .i64 a1_5) := (blk_cell BK103.out 5).trans rfl; have hfz26_0 := blk_frozen BK103.out 0; have hfz26_1 := blk_frozen BK103.out 1; have hfz26_2 := blk_frozen BK103.out 2; have hfz26_3 := blk_frozen BK103.out 3; have hfz26_4 := blk_frozen BK103.out 4; have hfz26_5 := blk_frozen BK103.out 5) | (go_at_call 14; (with_reducible refine (impl_Valid.calls x5_2 a1_0 a1_1 a1_2 a1_3 a1_4 a1_5 true _ A23.out).mono ?_); rintro e w27 ⟨rfl, hb⟩; have n0_ := Aside0.mk (Kd.R_below (by (with_reducible repeat (first | apply Kd.R_alloc | apply Kd.R_drewN | apply Kd.R_drew)); exact HO114.out) hb); have n1_ := Aside0.mk (blk_below (g := gb103) (o := .cells #[.int .i64 a1_0, .int .i64 a1_1, .int .i64 a1_2, .int .i64 a1_3, .int .i64 a1_4, .int .i64 a1_5] 23 (0, 0)) (by (with_reducible repeat (first | refine blk_drewN ?_ _ | refine blk_drew ?_ | refine blk_alloc ?_ _)); exact BK103.out) hb); have n2_ := Aside0.mk (below_step (by repeat (first | (with_reducible first | exact HB.out | apply below_alloc | apply pw_below_drewN | apply below_drew1 | refine below_set ?_ GE103.out) | exact HB.out)) hb); clear HO114; clear BK103; clear HB; have HO114 := n0_; have BK103 := n1_; have HB := n2_; clear n0_ n1_ n2_; (try clear hb); (try clear hb2); (try clear hk); (try clear hi)))
                      go_ret
                      exact ⟨by first | rfl | (simp [errW_none, errW_some] <;> rfl) | (simp [*, errW_none, errW_some] <;> rfl), by repeat (first | (with_reducible first | exact HB.out | apply below_alloc | apply pw_below_drewN | apply below_drew1 | refine below_set ?_ GE103.out) | exact HB.out)⟩
                    · replace c24 := Bool.eq_false_iff.mpr c24
                      subst c24
                      have H1 : ((impl_Valid.f (⟨#[42, 32, 42, 32, 42, 32, 42, 32, 42]⟩ : ByteArray) a1_0 a1_1 a1_2 a1_3 a1_4 a1_5).bind fun t117 => (some t117)) = some r := by rw [if_neg (show ¬ (false = true) by decide)] at H; exact H
                      clear H
                      have H := H1
                      clear H1
                      replace H := Option.bind_eq_some_iff.mp H
                      obtain ⟨t117, A280, H⟩ := H
                      replace H : (some t117) = some r := H
                      have A28 := Aside0.mk A280
                      clear A280
                      obtain rfl := Option.some.inj H
                      go_wp2_with (first | ((with_reducible refine gate_callee (f := 23) rfl ?_); refine goesL_ (some 29) rfl rfl Tryz.func23 (by kernel_rfl) rfl #[.string x5_2] rfl (by (try simp only [List.map_toArray, List.map_cons, List.map_nil]); first | done | rfl | (simp only [List.length_drop, List.length_take]; rfl)) ?_; (with_reducible refine (impl_PartsE.calls x5_2 t111 false _ A15.out).mono ?_); rintro e w29 ⟨v113, rfl, ho0, hb⟩; refine ⟨_, rfl, ?_⟩; have n0_ := Aside0.mk (Kd.R_lower ho0 (below_size (by repeat (first | (with_reducible first | exact HB.out | apply below_alloc | apply pw_below_drewN | apply below_drew1 | refine below_set ?_ GE103.out) | exact HB.out)))); have n1_ := Aside0.mk (blk_below (g := gb103) (o := .cells #[.int .i64 a1_0, .int .i64 a1_1, .int .i64 a1_2, .int .i64 a1_3, .int .i64 a1_4, .int .i64 a1_5] 23 (0, 0)) (by (with_reducible repeat (first | refine blk_drewN ?_ _ | refine blk_drew ?_ | refine blk_alloc ?_ _)); exact BK103.out) hb); have n2_ := Aside0.mk (below_step (by repeat (first | (with_reducible first | exact HB.out | apply below_alloc | apply pw_below_drewN | apply below_drew1 | refine below_set ?_ GE103.out) | exact HB.out)) hb); clear BK103; clear HB; have HO114 := n0_; have BK103 := n1_; have HB := n2_; clear n0_ n1_ n2_; (try clear hb); (try clear hb2); (try clear hk); (try clear hi); (try clear ho0); have hcz30_0 : w29.cell? ⟨gb103, 0, none⟩ = some (.int .i64 a1_0) := (blk_cell BK103.out 0).trans rfl; have hcz30_1 : w29.cell? ⟨gb103, 1, none⟩ = some (.int .i64 a1_1) := (blk_cell BK103.out 1).trans rfl; have hcz30_2 : w29.cell? ⟨gb103, 2, none⟩ = some (.int .i64 a1_2) := (blk_cell BK103.out 2).trans rfl; have hcz30_3 : w29.cell? ⟨gb103, 3, none⟩ = some (.int .i64 a1_3) := (blk_cell BK103.out 3).trans rfl; have hcz30_4 : w29.cell? ⟨gb103, 4, none⟩ = some (.int .i64 a1_4) := (blk_cell BK103.out 4).trans rfl; have hcz30_5 : w29.cell? ⟨gb103, 5, none⟩ = some (.int .i64 a1_5) := (blk_cell BK103.out 5).trans rfl; have hfz30_0 := blk_frozen BK103.out 0; have hfz30_1 := blk_frozen BK103.out 1; have hfz30_2 := blk_frozen BK103.out 2; have hfz30_3 := blk_frozen BK103.out 3; have hfz30_4 := blk_frozen BK103.out 4; have hfz30_5 := blk_frozen BK103.out 5) | (go_at_call 14; (with_reducible refine (impl_Valid.calls x5_2 a1_0 a1_1 a1_2 a1_3 a1_4 a1_5 false _ A23.out).mono ?_); rintro e w31 ⟨rfl, hb⟩; have n0_ := Aside0.mk (Kd.R_below (by (with_reducible repeat (first | apply Kd.R_alloc | apply Kd.R_drewN | apply Kd.R_drew)); exact HO114.out) hb); have n1_ := Aside0.mk (blk_below (g := gb103) (o := .cells #[.int .i64 a1_0, .int .i64 a1_1, .int .i64 a1_2, .int .i64 a1_3, .int .i64 a1_4, .int .i64 a1_5] 23 (0, 0)) (by (with_reducible repeat (first | refine blk_drewN ?_ _ | refine blk_drew ?_ | refine blk_alloc ?_ _)); exact BK103.out) hb); have n2_ := Aside0.mk (below_step (by repeat (first | (with_reducible first | exact HB.out | apply below_alloc | apply pw_below_drewN | apply below_drew1 | refine below_set ?_ GE103.out) | exact HB.out)) hb); clear HO114; clear BK103; clear HB; have HO114 := n0_; have BK103 := n1_; have HB := n2_; clear n0_ n1_ n2_; (try clear hb); (try clear hb2); (try clear hk); (try clear hi); have hcz32_0 : w31.cell? ⟨gb103, 0, none⟩ = some (.int .i64 a1_0) := (blk_cell BK103.out 0).trans rfl; have hcz32_1 : w31.cell? ⟨gb103, 1, none⟩ = some (.int .i64 a1_1) := (blk_cell BK103.out 1).trans rfl; have hcz32_2 : w31.cell? ⟨gb103, 2, none⟩ = some (.int .i64 a1_2) := (blk_cell BK103.out 2).trans rfl; have hcz32_3 : w31.cell? ⟨gb103, 3, none⟩ = some (.int .i64 a1_3) := (blk_cell BK103.out 3).trans rfl; have hcz32_4 : w31.cell? ⟨gb103, 4, none⟩ = some (.int .i64 a1_4) := (blk_cell BK103.out 4).trans rfl; have hcz32_5 : w31.cell? ⟨gb103, 5, none⟩ = some (.int .i64 a1_5) := (blk_cell BK103.out 5).trans rfl; have hfz32_0 := blk_frozen BK103.out 0; have hfz32_1 := blk_frozen BK103.out 1; have hfz32_2 := blk_frozen BK103.out 2; have hfz32_3 := blk_frozen BK103.out 3; have hfz32_4 := blk_frozen BK103.out 4; have hfz32_5 := blk_frozen BK103.out 5) | (go_at_call 14; (with_reducible refine (impl_Valid.calls (⟨#[42, 32, 42, 32, 42, 32, 42, 32, 42]⟩ : ByteArray) a1_0 a1_1 a1_2 a1_3 a1_4 a1_5 t117 _ A28.out).mono ?_); rintro e w33 ⟨rfl, hb⟩; have n0_ := Aside0.mk (Kd.R_below (by (with_reducible repeat (first | apply Kd.R_alloc | apply Kd.R_drewN | apply Kd.R_drew)); exact HO114.out) hb); have n1_ := Aside0.mk (blk_below (g := gb103) (o := .cells #[.int .i64 a1_0, .int .i64 a1_1, .int .i64 a1_2, .int .i64 a1_3, .int .i64 a1_4, .int .i64 a1_5] 23 (0, 0)) (by (with_reducible repeat (first | refine blk_drewN ?_ _ | refine blk_drew ?_ | refine blk_alloc ?_ _)); exact BK103.out) hb); have n2_ := Aside0.mk (below_step (by repeat (first | (with_reducible first | exact HB.out | apply below_alloc | apply pw_below_drewN | apply below_drew1 | refine below_set ?_ GE103.out) | exact HB.out)) hb); clear HO114; clear BK103; clear HB; have HO114 := n0_; have BK103 := n1_; have HB := n2_; clear n0_ n1_ n2_; (try clear hb); (try clear hb2); (try clear hk); (try clear hi)))
                      go_ret
                      exact ⟨by first | rfl | (simp [errW_none, errW_some] <;> rfl) | (simp [*, errW_none, errW_some] <;> rfl), by repeat (first | (with_reducible first | exact HB.out | apply below_alloc | apply pw_below_drewN | apply below_drew1 | refine below_set ?_ GE103.out) | exact HB.out)⟩
                · rw [if_neg c17] at H
                  have c17b0 : (t112 == (decide (a0 ≤ 7))) = false := by simpa using c17
                  (try (have c17b1 : decide (t112 = (decide (a0 ≤ 7))) = false := by simpa using c17))
                  (try (have c17b2 : (t112 == (decide (a0 ≤ 7))) = false := by simpa using c17))
                  (try (have c17b3 : ¬ (t112 = (decide (a0 ≤ 7))) := by simpa using c17))
                  clear c17
                  obtain rfl := Option.some.inj H
                  go_wp2_with (first | ((with_reducible refine gate_callee (f := 23) rfl ?_); refine goesL_ (some 29) rfl rfl Tryz.func23 (by kernel_rfl) rfl #[.string x5_2] rfl (by (try simp only [List.map_toArray, List.map_cons, List.map_nil]); first | done | rfl | (simp only [List.length_drop, List.length_take]; rfl)) ?_; (with_reducible refine (impl_PartsE.calls x5_2 t111 t112 _ A15.out).mono ?_); rintro e w34 ⟨v113, rfl, ho0, hb⟩; refine ⟨_, rfl, ?_⟩; have n0_ := Aside0.mk (Kd.R_lower ho0 (below_size (by repeat (first | (with_reducible first | exact HB.out | apply below_alloc | apply pw_below_drewN | apply below_drew1 | refine below_set ?_ GE103.out) | exact HB.out)))); have n1_ := Aside0.mk (blk_below (g := gb103) (o := .cells #[.int .i64 a1_0, .int .i64 a1_1, .int .i64 a1_2, .int .i64 a1_3, .int .i64 a1_4, .int .i64 a1_5] 23 (0, 0)) (by (with_reducible repeat (first | refine blk_drewN ?_ _ | refine blk_drew ?_ | refine blk_alloc ?_ _)); exact BK103.out) hb); have n2_ := Aside0.mk (below_step (by repeat (first | (with_reducible first | exact HB.out | apply below_alloc | apply pw_below_drewN | apply below_drew1 | refine below_set ?_ GE103.out) | exact HB.out)) hb); clear BK103; clear HB; have HO114 := n0_; have BK103 := n1_; have HB := n2_; clear n0_ n1_ n2_; (try clear hb); (try clear hb2); (try clear hk); (try clear hi); (try clear ho0)))
                  go_ret
                  exact ⟨by first | rfl | (simp [errW_none, errW_some] <;> rfl) | (simp [*, errW_none, errW_some] <;> rfl), by repeat (first | (with_reducible first | exact HB.out | apply below_alloc | apply pw_below_drewN | apply below_drew1 | refine below_set ?_ GE103.out) | exact HB.out)⟩
              · rw [if_neg c16] at H
                have c16b0 : decide (5 ≤ a0) = false := decide_eq_false c16
                clear c16
                by_cases c35 : (t112 == false) = true
                · rw [if_pos c35] at H
                  have c35b0 : (t112 == false) = true := c35
                  (try (have c35b1 : decide (t112 = false) = true := by simpa using c35))
                  (try (have c35b2 : (t112 == false) = true := by simpa using c35))
                  clear c35
                  by_cases c36 : t112 = true
                  · subst c36
                    have H1 : ((impl_Valid.f (⟨#[42, 32, 42, 32, 42, 32, 42, 32, 42]⟩ : ByteArray) a1_0 a1_1 a1_2 a1_3 a1_4 a1_5).bind fun t118 => (some t118)) = some r := by rw [if_pos rfl] at H; exact H
                    clear H
                    have H := H1
                    clear H1
                    replace H := Option.bind_eq_some_iff.mp H
                    obtain ⟨t118, A370, H⟩ := H
                    replace H : (some t118) = some r := H
                    have A37 := Aside0.mk A370
                    clear A370
                    obtain rfl := Option.some.inj H
                    go_wp2_with (first | ((with_reducible refine gate_callee (f := 23) rfl ?_); refine goesL_ (some 29) rfl rfl Tryz.func23 (by kernel_rfl) rfl #[.string x5_2] rfl (by (try simp only [List.map_toArray, List.map_cons, List.map_nil]); first | done | rfl | (simp only [List.length_drop, List.length_take]; rfl)) ?_; (with_reducible refine (impl_PartsE.calls x5_2 t111 true _ A15.out).mono ?_); rintro e w38 ⟨v113, rfl, ho0, hb⟩; refine ⟨_, rfl, ?_⟩; have n0_ := Aside0.mk (Kd.R_lower ho0 (below_size (by repeat (first | (with_reducible first | exact HB.out | apply below_alloc | apply pw_below_drewN | apply below_drew1 | refine below_set ?_ GE103.out) | exact HB.out)))); have n1_ := Aside0.mk (blk_below (g := gb103) (o := .cells #[.int .i64 a1_0, .int .i64 a1_1, .int .i64 a1_2, .int .i64 a1_3, .int .i64 a1_4, .int .i64 a1_5] 23 (0, 0)) (by (with_reducible repeat (first | refine blk_drewN ?_ _ | refine blk_drew ?_ | refine blk_alloc ?_ _)); exact BK103.out) hb); have n2_ := Aside0.mk (below_step (by repeat (first | (with_reducible first | exact HB.out | apply below_alloc | apply pw_below_drewN | apply below_drew1 | refine below_set ?_ GE103.out) | exact HB.out)) hb); clear BK103; clear HB; have HO114 := n0_; have BK103 := n1_; have HB := n2_; clear n0_ n1_ n2_; (try clear hb); (try clear hb2); (try clear hk); (try clear hi); (try clear ho0); have hcz39_0 : w38.cell? ⟨gb103, 0, none⟩ = some (.int .i64 a1_0) := (blk_cell BK103.out 0).trans rfl; have hcz39_1 : w38.cell? ⟨gb103, 1, none⟩ = some (.int .i64 a1_1) := (blk_cell BK103.out 1).trans rfl; have hcz39_2 : w38.cell? ⟨gb103, 2, none⟩ = some (.int .i64 a1_2) := (blk_cell BK103.out 2).trans rfl; have hcz39_3 : w38.cell? ⟨gb103, 3, none⟩ = some (.int .i64 a1_3) := (blk_cell BK103.out 3).trans rfl; have hcz39_4 : w38.cell? ⟨gb103, 4, none⟩ = some (.int .i64 a1_4) := (blk_cell BK103.out 4).trans rfl; have hcz39_5 : w38.cell? ⟨gb103, 5, none⟩ = some (.int .i64 a1_5) := (blk_cell BK103.out 5).trans rfl; have hfz39_0 := blk_frozen BK103.out 0; have hfz39_1 := blk_frozen BK103.out 1; have hfz39_2 := blk_frozen BK103.out 2; have hfz39_3 := blk_frozen BK103.out 3; have hfz39_4 := blk_frozen BK103.out 4; have hfz39_5 := blk_frozen BK103.out 5) | (go_at_call 14; (with_reducible refine (impl_Valid.calls (⟨#[42, 32, 42, 32, 42, 32, 42, 32, 42]⟩ : ByteArray) a1_0 a1_1 a1_2 a1_3 a1_4 a1_5 t118 _ A37.out).mono ?_); rintro e w40 ⟨rfl, hb⟩; have n0_ := Aside0.mk (Kd.R_below (by (with_reducible repeat (first | apply Kd.R_alloc | apply Kd.R_drewN | apply Kd.R_drew)); exact HO114.out) hb); have n1_ := Aside0.mk (blk_below (g := gb103) (o := .cells #[.int .i64 a1_0, .int .i64 a1_1, .int .i64 a1_2, .int .i64 a1_3, .int .i64 a1_4, .int .i64 a1_5] 23 (0, 0)) (by (with_reducible repeat (first | refine blk_drewN ?_ _ | refine blk_drew ?_ | refine blk_alloc ?_ _)); exact BK103.out) hb); have n2_ := Aside0.mk (below_step (by repeat (first | (with_reducible first | exact HB.out | apply below_alloc | apply pw_below_drewN | apply below_drew1 | refine below_set ?_ GE103.out) | exact HB.out)) hb); clear HO114; clear BK103; clear HB; have HO114 := n0_; have BK103 := n1_; have HB := n2_; clear n0_ n1_ n2_; (try clear hb); (try clear hb2); (try clear hk); (try clear hi)))
                    go_ret
                    exact ⟨by first | rfl | (simp [errW_none, errW_some] <;> rfl) | (simp [*, errW_none, errW_some] <;> rfl), by repeat (first | (with_reducible first | exact HB.out | apply below_alloc | apply pw_below_drewN | apply below_drew1 | refine below_set ?_ GE103.out) | exact HB.out)⟩
                  · replace c36 := Bool.eq_false_iff.mpr c36
                    subst c36
                    have H1 : ((impl_Valid.f x5_2 a1_0 a1_1 a1_2 a1_3 a1_4 a1_5).bind fun t119 => (if t119 = true then (some false) else ((impl_Valid.f (⟨#[42, 32, 42, 32, 42, 32, 42, 32, 42]⟩ : ByteArray) a1_0 a1_1 a1_2 a1_3 a1_4 a1_5).bind fun t120 => (some t120)))) = some r := by rw [if_neg (show ¬ (false = true) by decide)] at H; exact H
                    clear H
                    have H := H1
                    clear H1
                    replace H := Option.bind_eq_some_iff.mp H
                    obtain ⟨t119, A410, H⟩ := H
                    replace H : (if t119 = true then (some false) else ((impl_Valid.f (⟨#[42, 32, 42, 32, 42, 32, 42, 32, 42]⟩ : ByteArray) a1_0 a1_1 a1_2 a1_3 a1_4 a1_5).bind fun t120 => (some t120))) = some r := H
                    have A41 := Aside0.mk A410
                    clear A410
                    by_cases c42 : t119 = true
                    · subst c42
                      have H1 : (some false) = some r := by rw [if_pos rfl] at H; exact H
                      clear H
                      have H := H1
                      clear H1
                      obtain rfl := Option.some.inj H
                      go_wp2_with (first | ((with_reducible refine gate_callee (f := 23) rfl ?_); refine goesL_ (some 29) rfl rfl Tryz.func23 (by kernel_rfl) rfl #[.string x5_2] rfl (by (try simp only [List.map_toArray, List.map_cons, List.map_nil]); first | done | rfl | (simp only [List.length_drop, List.length_take]; rfl)) ?_; (with_reducible refine (impl_PartsE.calls x5_2 t111 false _ A15.out).mono ?_); rintro e w43 ⟨v113, rfl, ho0, hb⟩; refine ⟨_, rfl, ?_⟩; have n0_ := Aside0.mk (Kd.R_lower ho0 (below_size (by repeat (first | (with_reducible first | exact HB.out | apply below_alloc | apply pw_below_drewN | apply below_drew1 | refine below_set ?_ GE103.out) | exact HB.out)))); have n1_ := Aside0.mk (blk_below (g := gb103) (o := .cells #[.int .i64 a1_0, .int .i64 a1_1, .int .i64 a1_2, .int .i64 a1_3, .int .i64 a1_4, .int .i64 a1_5] 23 (0, 0)) (by (with_reducible repeat (first | refine blk_drewN ?_ _ | refine blk_drew ?_ | refine blk_alloc ?_ _)); exact BK103.out) hb); have n2_ := Aside0.mk (below_step (by repeat (first | (with_reducible first | exact HB.out | apply below_alloc | apply pw_below_drewN | apply below_drew1 | refine below_set ?_ GE103.out) | exact HB.out)) hb); clear BK103; clear HB; have HO114 := n0_; have BK103 := n1_; have HB := n2_; clear n0_ n1_ n2_; (try clear hb); (try clear hb2); (try clear hk); (try clear hi); (try clear ho0); have hcz44_0 : w43.cell? ⟨gb103, 0, none⟩ = some (.int .i64 a1_0) := (blk_cell BK103.out 0).trans rfl; have hcz44_1 : w43.cell? ⟨gb103, 1, none⟩ = some (.int .i64 a1_1) := (blk_cell BK103.out 1).trans rfl; have hcz44_2 : w43.cell? ⟨gb103, 2, none⟩ = some (.int .i64 a1_2) := (blk_cell BK103.out 2).trans rfl; have hcz44_3 : w43.cell? ⟨gb103, 3, none⟩ = some (.int .i64 a1_3) := (blk_cell BK103.out 3).trans rfl; have hcz44_4 : w43.cell? ⟨gb103, 4, none⟩ = some (.int .i64 a1_4) := (blk_cell BK103.out 4).trans rfl; have hcz44_5 : w43.cell? ⟨gb103, 5, none⟩ = some (.int .i64 a1_5) := (blk_cell BK103.out 5).trans rfl; have hfz44_0 := blk_frozen BK103.out 0; have hfz44_1 := blk_frozen BK103.out 1; have hfz44_2 := blk_frozen BK103.out 2; have hfz44_3 := blk_frozen BK103.out 3; have hfz44_4 := blk_frozen BK103.out 4; have hfz44_5 := blk_frozen BK103.out 5) | (go_at_call 14; (with_reducible refine (impl_Valid.calls x5_2 a1_0 a1_1 a1_2 a1_3 a1_4 a1_5 true _ A41.out).mono ?_); rintro e w45 ⟨rfl, hb⟩; have n0_ := Aside0.mk (Kd.R_below (by (with_reducible repeat (first | apply Kd.R_alloc | apply Kd.R_drewN | apply Kd.R_drew)); exact HO114.out) hb); have n1_ := Aside0.mk (blk_below (g := gb103) (o := .cells #[.int .i64 a1_0, .int .i64 a1_1, .int .i64 a1_2, .int .i64 a1_3, .int .i64 a1_4, .int .i64 a1_5] 23 (0, 0)) (by (with_reducible repeat (first | refine blk_drewN ?_ _ | refine blk_drew ?_ | refine blk_alloc ?_ _)); exact BK103.out) hb); have n2_ := Aside0.mk (below_step (by repeat (first | (with_reducible first | exact HB.out | apply below_alloc | apply pw_below_drewN | apply below_drew1 | refine below_set ?_ GE103.out) | exact HB.out)) hb); clear HO114; clear BK103; clear HB; have HO114 := n0_; have BK103 := n1_; have HB := n2_; clear n0_ n1_ n2_; (try clear hb); (try clear hb2); (try clear hk); (try clear hi)))
                      go_ret
                      exact ⟨by first | rfl | (simp [errW_none, errW_some] <;> rfl) | (simp [*, errW_none, errW_some] <;> rfl), by repeat (first | (with_reducible first | exact HB.out | apply below_alloc | apply pw_below_drewN | apply below_drew1 | refine below_set ?_ GE103.out) | exact HB.out)⟩
                    · replace c42 := Bool.eq_false_iff.mpr c42
                      subst c42
                      have H1 : ((impl_Valid.f (⟨#[42, 32, 42, 32, 42, 32, 42, 32, 42]⟩ : ByteArray) a1_0 a1_1 a1_2 a1_3 a1_4 a1_5).bind fun t120 => (some t120)) = some r := by rw [if_neg (show ¬ (false = true) by decide)] at H; exact H
                      clear H
                      have H := H1
                      clear H1
                      replace H := Option.bind_eq_some_iff.mp H
                      obtain ⟨t120, A460, H⟩ := H
                      replace H : (some t120) = some r := H
                      have A46 := Aside0.mk A460
                      clear A460
                      obtain rfl := Option.some.inj H
                      go_wp2_with (first | ((with_reducible refine gate_callee (f := 23) rfl ?_); refine goesL_ (some 29) rfl rfl Tryz.func23 (by kernel_rfl) rfl #[.string x5_2] rfl (by (try simp only [List.map_toArray, List.map_cons, List.map_nil]); first | done | rfl | (simp only [List.length_drop, List.length_take]; rfl)) ?_; (with_reducible refine (impl_PartsE.calls x5_2 t111 false _ A15.out).mono ?_); rintro e w47 ⟨v113, rfl, ho0, hb⟩; refine ⟨_, rfl, ?_⟩; have n0_ := Aside0.mk (Kd.R_lower ho0 (below_size (by repeat (first | (with_reducible first | exact HB.out | apply below_alloc | apply pw_below_drewN | apply below_drew1 | refine below_set ?_ GE103.out) | exact HB.out)))); have n1_ := Aside0.mk (blk_below (g := gb103) (o := .cells #[.int .i64 a1_0, .int .i64 a1_1, .int .i64 a1_2, .int .i64 a1_3, .int .i64 a1_4, .int .i64 a1_5] 23 (0, 0)) (by (with_reducible repeat (first | refine blk_drewN ?_ _ | refine blk_drew ?_ | refine blk_alloc ?_ _)); exact BK103.out) hb); have n2_ := Aside0.mk (below_step (by repeat (first | (with_reducible first | exact HB.out | apply below_alloc | apply pw_below_drewN | apply below_drew1 | refine below_set ?_ GE103.out) | exact HB.out)) hb); clear BK103; clear HB; have HO114 := n0_; have BK103 := n1_; have HB := n2_; clear n0_ n1_ n2_; (try clear hb); (try clear hb2); (try clear hk); (try clear hi); (try clear ho0); have hcz48_0 : w47.cell? ⟨gb103, 0, none⟩ = some (.int .i64 a1_0) := (blk_cell BK103.out 0).trans rfl; have hcz48_1 : w47.cell? ⟨gb103, 1, none⟩ = some (.int .i64 a1_1) := (blk_cell BK103.out 1).trans rfl; have hcz48_2 : w47.cell? ⟨gb103, 2, none⟩ = some (.int .i64 a1_2) := (blk_cell BK103.out 2).trans rfl; have hcz48_3 : w47.cell? ⟨gb103, 3, none⟩ = some (.int .i64 a1_3) := (blk_cell BK103.out 3).trans rfl; have hcz48_4 : w47.cell? ⟨gb103, 4, none⟩ = some (.int .i64 a1_4) := (blk_cell BK103.out 4).trans rfl; have hcz48_5 : w47.cell? ⟨gb103, 5, none⟩ = some (.int .i64 a1_5) := (blk_cell BK103.out 5).trans rfl; have hfz48_0 := blk_frozen BK103.out 0; have hfz48_1 := blk_frozen BK103.out 1; have hfz48_2 := blk_frozen BK103.out 2; have hfz48_3 := blk_frozen BK103.out 3; have hfz48_4 := blk_frozen BK103.out 4; have hfz48_5 := blk_frozen BK103.out 5) | (go_at_call 14; (with_reducible refine (impl_Valid.calls x5_2 a1_0 a1_1 a1_2 a1_3 a1_4 a1_5 false _ A41.out).mono ?_); rintro e w49 ⟨rfl, hb⟩; have n0_ := Aside0.mk (Kd.R_below (by (with_reducible repeat (first | apply Kd.R_alloc | apply Kd.R_drewN | apply Kd.R_drew)); exact HO114.out) hb); have n1_ := Aside0.mk (blk_below (g := gb103) (o := .cells #[.int .i64 a1_0, .int .i64 a1_1, .int .i64 a1_2, .int .i64 a1_3, .int .i64 a1_4, .int .i64 a1_5] 23 (0, 0)) (by (with_reducible repeat (first | refine blk_drewN ?_ _ | refine blk_drew ?_ | refine blk_alloc ?_ _)); exact BK103.out) hb); have n2_ := Aside0.mk (below_step (by repeat (first | (with_reducible first | exact HB.out | apply below_alloc | apply pw_below_drewN | apply below_drew1 | refine below_set ?_ GE103.out) | exact HB.out)) hb); clear HO114; clear BK103; clear HB; have HO114 := n0_; have BK103 := n1_; have HB := n2_; clear n0_ n1_ n2_; (try clear hb); (try clear hb2); (try clear hk); (try clear hi); have hcz50_0 : w49.cell? ⟨gb103, 0, none⟩ = some (.int .i64 a1_0) := (blk_cell BK103.out 0).trans rfl; have hcz50_1 : w49.cell? ⟨gb103, 1, none⟩ = some (.int .i64 a1_1) := (blk_cell BK103.out 1).trans rfl; have hcz50_2 : w49.cell? ⟨gb103, 2, none⟩ = some (.int .i64 a1_2) := (blk_cell BK103.out 2).trans rfl; have hcz50_3 : w49.cell? ⟨gb103, 3, none⟩ = some (.int .i64 a1_3) := (blk_cell BK103.out 3).trans rfl; have hcz50_4 : w49.cell? ⟨gb103, 4, none⟩ = some (.int .i64 a1_4) := (blk_cell BK103.out 4).trans rfl; have hcz50_5 : w49.cell? ⟨gb103, 5, none⟩ = some (.int .i64 a1_5) := (blk_cell BK103.out 5).trans rfl; have hfz50_0 := blk_frozen BK103.out 0; have hfz50_1 := blk_frozen BK103.out 1; have hfz50_2 := blk_frozen BK103.out 2; have hfz50_3 := blk_frozen BK103.out 3; have hfz50_4 := blk_frozen BK103.out 4; have hfz50_5 := blk_frozen BK103.out 5) | (go_at_call 14; (with_reducible refine (impl_Valid.calls (⟨#[42, 32, 42, 32, 42, 32, 42, 32, 42]⟩ : ByteArray) a1_0 a1_1 a1_2 a1_3 a1_4 a1_5 t120 _ A46.out).mono ?_); rintro e w51 ⟨rfl, hb⟩; have n0_ := Aside0.mk (Kd.R_below (by (with_reducible repeat (first | apply Kd.R_alloc | apply Kd.R_drewN | apply Kd.R_drew)); exact HO114.out) hb); have n1_ := Aside0.mk (blk_below (g := gb103) (o := .cells #[.int .i64 a1_0, .int .i64 a1_1, .int .i64 a1_2, .int .i64 a1_3, .int .i64 a1_4, .int .i64 a1_5] 23 (0, 0)) (by (with_reducible repeat (first | refine blk_drewN ?_ _ | refine blk_drew ?_ | refine blk_alloc ?_ _)); exact BK103.out) hb); have n2_ := Aside0.mk (below_step (by repeat (first | (with_reducible first | exact HB.out | apply below_alloc | apply pw_below_drewN | apply below_drew1 | refine below_set ?_ GE103.out) | exact HB.out)) hb); clear HO114; clear BK103; clear HB; have HO114 := n0_; have BK103 := n1_; have HB := n2_; clear n0_ n1_ n2_; (try clear hb); (try clear hb2); (try clear hk); (try clear hi)))
                      go_ret
                      exact ⟨by first | rfl | (simp [errW_none, errW_some] <;> rfl) | (simp [*, errW_none, errW_some] <;> rfl), by repeat (first | (with_reducible first | exact HB.out | apply below_alloc | apply pw_below_drewN | apply below_drew1 | refine below_set ?_ GE103.out) | exact HB.out)⟩
                · rw [if_neg c35] at H
                  have c35b0 : (t112 == false) = false := by simpa using c35
                  (try (have c35b1 : decide (t112 = false) = false := by simpa using c35))
                  (try (have c35b2 : (t112 == false) = false := by simpa using c35))
                  (try (have c35b3 : ¬ (t112 = false) := by simpa using c35))
                  clear c35
                  obtain rfl := Option.some.inj H
                  go_wp2_with (first | ((with_reducible refine gate_callee (f := 23) rfl ?_); refine goesL_ (some 29) rfl rfl Tryz.func23 (by kernel_rfl) rfl #[.string x5_2] rfl (by (try simp only [List.map_toArray, List.map_cons, List.map_nil]); first | done | rfl | (simp only [List.length_drop, List.length_take]; rfl)) ?_; (with_reducible refine (impl_PartsE.calls x5_2 t111 t112 _ A15.out).mono ?_); rintro e w52 ⟨v113, rfl, ho0, hb⟩; refine ⟨_, rfl, ?_⟩; have n0_ := Aside0.mk (Kd.R_lower ho0 (below_size (by repeat (first | (with_reducible first | exact HB.out | apply below_alloc | apply pw_below_drewN | apply below_drew1 | refine below_set ?_ GE103.out) | exact HB.out)))); have n1_ := Aside0.mk (blk_below (g := gb103) (o := .cells #[.int .i64 a1_0, .int .i64 a1_1, .int .i64 a1_2, .int .i64 a1_3, .int .i64 a1_4, .int .i64 a1_5] 23 (0, 0)) (by (with_reducible repeat (first | refine blk_drewN ?_ _ | refine blk_drew ?_ | refine blk_alloc ?_ _)); exact BK103.out) hb); have n2_ := Aside0.mk (below_step (by repeat (first | (with_reducible first | exact HB.out | apply below_alloc | apply pw_below_drewN | apply below_drew1 | refine below_set ?_ GE103.out) | exact HB.out)) hb); clear BK103; clear HB; have HO114 := n0_; have BK103 := n1_; have HB := n2_; clear n0_ n1_ n2_; (try clear hb); (try clear hb2); (try clear hk); (try clear hi); (try clear ho0)))
                  go_ret
                  exact ⟨by first | rfl | (simp [errW_none, errW_some] <;> rfl) | (simp [*, errW_none, errW_some] <;> rfl), by repeat (first | (with_reducible first | exact HB.out | apply below_alloc | apply pw_below_drewN | apply below_drew1 | refine below_set ?_ GE103.out) | exact HB.out)⟩
end Go.Proofs.YtkhgeonlohafgaaGreatDoor.Core
namespace Go.Proofs.YtkhgeonlohafgaaGreatDoor.Core
open Go.RowKit Go.Proofs.YtkhgeonlohafgaaGreatDoorW.PrintWords Go.Proofs.YtkhgeonlohafgaaGreatDoorW.PrintLast Go.Proofs.YtkhgeonlohafgaaGreatDoorW.PrintMore
attribute [local go_sem] max2_int min2_int max_two min_two max_three min_three max_four min_four   -- for this text's walks alone
set_option linter.unusedVariables false
set_option linter.unusedSimpArgs false
end Go.Proofs.YtkhgeonlohafgaaGreatDoor.Core
namespace Go.Proofs.YtkhgeonlohafgaaGreatDoor.Core
open Go.RowKit Go.Proofs.YtkhgeonlohafgaaGreatDoorW.PrintWords Go.Proofs.YtkhgeonlohafgaaGreatDoorW.PrintLast Go.Proofs.YtkhgeonlohafgaaGreatDoorW.PrintMore
attribute [local go_sem] max2_int min2_int max_two min_two max_three min_three max_four min_four   -- for this text's walks alone
set_option linter.unusedVariables false
set_option linter.unusedSimpArgs false
theorem eqA57 (d : Nat) (w : World) (x0 y0 : Bool) (x1 y1 : Int) (x2 y2 : Int) (x3 y3 : Int) :
    (Op.equalIn (d + 2) 57 (.agg #[.bool x0, .int .i64 x1, .int .i64 x2, .int .i64 x3]) (.agg #[.bool y0, .int .i64 y1, .int .i64 y2, .int .i64 y3])).run Tryz.prog w = .ok (x0 == y0 && (x1 == y1 && (x2 == y2 && (x3 == y3)))) w := by
  refine eqA_of Tryz.underlying57 (by kernel_rfl) ?_
  refine eqf_cons (by rfl) (by go_simp; rfl) (by go_simp; rfl) (by go_simp) ?_
  refine eqf_cons (by rfl) (by go_simp; rfl) (by go_simp; rfl) (by go_simp) ?_
  refine eqf_cons (by rfl) (by go_simp; rfl) (by go_simp; rfl) (by go_simp) ?_
  exact eqf_last (by rfl) (by go_simp; rfl) (by go_simp; rfl) (by go_simp)
end Go.Proofs.YtkhgeonlohafgaaGreatDoor.Core
namespace Go.Proofs.YtkhgeonlohafgaaGreatDoor.Core
open Go.RowKit Go.Proofs.YtkhgeonlohafgaaGreatDoorW.PrintWords Go.Proofs.YtkhgeonlohafgaaGreatDoorW.PrintLast Go.Proofs.YtkhgeonlohafgaaGreatDoorW.PrintMore
attribute [local go_sem] max2_int min2_int max_two min_two max_three min_three max_four min_four   -- for this text's walks alone
set_option linter.unusedVariables false
set_option linter.unusedSimpArgs false
end Go.Proofs.YtkhgeonlohafgaaGreatDoor.Core
namespace Go.Proofs.YtkhgeonlohafgaaGreatDoor.Core
open Go.RowKit Go.Proofs.YtkhgeonlohafgaaGreatDoorW.PrintWords Go.Proofs.YtkhgeonlohafgaaGreatDoorW.PrintLast Go.Proofs.YtkhgeonlohafgaaGreatDoorW.PrintMore
attribute [local go_sem] max2_int min2_int max_two min_two max_three min_three max_four min_four   -- for this text's walks alone
set_option linter.unusedVariables false
set_option linter.unusedSimpArgs false
end Go.Proofs.YtkhgeonlohafgaaGreatDoor.Core
namespace Go.Proofs.YtkhgeonlohafgaaGreatDoor.Core
open Go.RowKit Go.Proofs.YtkhgeonlohafgaaGreatDoorW.PrintWords Go.Proofs.YtkhgeonlohafgaaGreatDoorW.PrintLast Go.Proofs.YtkhgeonlohafgaaGreatDoorW.PrintMore
attribute [local go_sem] max2_int min2_int max_two min_two max_three min_three max_four min_four   -- for this text's walks alone
set_option linter.unusedVariables false
set_option linter.unusedSimpArgs false
end Go.Proofs.YtkhgeonlohafgaaGreatDoor.Core
namespace Go.Proofs.YtkhgeonlohafgaaGreatDoor.Core
open Go.RowKit Go.Proofs.YtkhgeonlohafgaaGreatDoorW.PrintWords Go.Proofs.YtkhgeonlohafgaaGreatDoorW.PrintLast Go.Proofs.YtkhgeonlohafgaaGreatDoorW.PrintMore
attribute [local go_sem] max2_int min2_int max_two min_two max_three min_three max_four min_four   -- for this text's walks alone
set_option linter.unusedVariables false
set_option linter.unusedSimpArgs false
end Go.Proofs.YtkhgeonlohafgaaGreatDoor.Core
namespace Go.Proofs.YtkhgeonlohafgaaGreatDoor.Core
open Go.RowKit Go.Proofs.YtkhgeonlohafgaaGreatDoorW.PrintWords Go.Proofs.YtkhgeonlohafgaaGreatDoorW.PrintLast Go.Proofs.YtkhgeonlohafgaaGreatDoorW.PrintMore
attribute [local go_sem] max2_int min2_int max_two min_two max_three min_three max_four min_four   -- for this text's walks alone
set_option linter.unusedVariables false
set_option linter.unusedSimpArgs false
attribute [local go_sem high] eqA57
end Go.Proofs.YtkhgeonlohafgaaGreatDoor.Core
namespace Go.Proofs.YtkhgeonlohafgaaGreatDoor.Core
open Go.RowKit Go.Proofs.YtkhgeonlohafgaaGreatDoorW.PrintWords Go.Proofs.YtkhgeonlohafgaaGreatDoorW.PrintLast Go.Proofs.YtkhgeonlohafgaaGreatDoorW.PrintMore
attribute [local go_sem] max2_int min2_int max_two min_two max_three min_three max_four min_four   -- for this text's walks alone
set_option linter.unusedVariables false
set_option linter.unusedSimpArgs false
end Go.Proofs.YtkhgeonlohafgaaGreatDoor.Core
namespace Go.Proofs.YtkhgeonlohafgaaGreatDoor.Core
open Go.RowKit Go.Proofs.YtkhgeonlohafgaaGreatDoorW.PrintWords Go.Proofs.YtkhgeonlohafgaaGreatDoorW.PrintLast Go.Proofs.YtkhgeonlohafgaaGreatDoorW.PrintMore
attribute [local go_sem] max2_int min2_int max_two min_two max_three min_three max_four min_four   -- for this text's walks alone
set_option linter.unusedVariables false
set_option linter.unusedSimpArgs false
def gotime_dateToAbsDays.f (a0 : Int) (a1 : Int) (a2 : Int) : Option (Int) := if ((a1) % 4294967296) < 3 then (some (IntKind.u64.wrap ((IntKind.u64.wrap (Int.tdiv (IntKind.u64.wrap (146097 * (IntKind.u64.wrap (Int.tdiv (IntKind.u64.wrap ((IntKind.u64.wrap ((IntKind.u64.wrap (a0)) - 1)) + 292277022400)) 100)))) 4)) + (IntKind.u64.wrap (wrap64 ((wrap64 ((((((1461 * ((Int.tmod (IntKind.u64.wrap ((IntKind.u64.wrap ((IntKind.u64.wrap (a0)) - 1)) + 292277022400)) 100) % 4294967296)) % 4294967296) / 4) + (((((979 * ((((a1) % 4294967296) + (12 * 1)) % 4294967296)) % 4294967296) - 2919) % 4294967296) / 32)) % 4294967296) + a2)) - 1)))))) else (some (IntKind.u64.wrap ((IntKind.u64.wrap (Int.tdiv (IntKind.u64.wrap (146097 * (IntKind.u64.wrap (Int.tdiv (IntKind.u64.wrap ((IntKind.u64.wrap ((IntKind.u64.wrap (a0)) - 0)) + 292277022400)) 100)))) 4)) + (IntKind.u64.wrap (wrap64 ((wrap64 ((((((1461 * ((Int.tmod (IntKind.u64.wrap ((IntKind.u64.wrap ((IntKind.u64.wrap (a0)) - 0)) + 292277022400)) 100) % 4294967296)) % 4294967296) / 4) + (((((979 * (((a1) % 4294967296) + (12 * 0))) % 4294967296) - 2919) % 4294967296) / 32)) % 4294967296) + a2)) - 1))))))
set_option maxHeartbeats 8000000 in
set_option maxRecDepth 100000 in
theorem gotime_dateToAbsDays.calls (a0 : Int) (a1 : Int) (a2 : Int) (r : Int) (w : World) (h : gotime_dateToAbsDays.f a0 a1 a2 = some r) :
    Calls Tryz.prog 69 #[.int .i64 a0, .int .i64 a1, .int .i64 a2] w fun e w' => e = .returned (.int .u64 r) ∧ Drawn0 w w' := by
  have H : (if ((a1) % 4294967296) < 3 then (some (IntKind.u64.wrap ((IntKind.u64.wrap (Int.tdiv (IntKind.u64.wrap (146097 * (IntKind.u64.wrap (Int.tdiv (IntKind.u64.wrap ((IntKind.u64.wrap ((IntKind.u64.wrap (a0)) - 1)) + 292277022400)) 100)))) 4)) + (IntKind.u64.wrap (wrap64 ((wrap64 ((((((1461 * ((Int.tmod (IntKind.u64.wrap ((IntKind.u64.wrap ((IntKind.u64.wrap (a0)) - 1)) + 292277022400)) 100) % 4294967296)) % 4294967296) / 4) + (((((979 * ((((a1) % 4294967296) + (12 * 1)) % 4294967296)) % 4294967296) - 2919) % 4294967296) / 32)) % 4294967296) + a2)) - 1)))))) else (some (IntKind.u64.wrap ((IntKind.u64.wrap (Int.tdiv (IntKind.u64.wrap (146097 * (IntKind.u64.wrap (Int.tdiv (IntKind.u64.wrap ((IntKind.u64.wrap ((IntKind.u64.wrap (a0)) - 0)) + 292277022400)) 100)))) 4)) + (IntKind.u64.wrap (wrap64 ((wrap64 ((((((1461 * ((Int.tmod (IntKind.u64.wrap ((IntKind.u64.wrap ((IntKind.u64.wrap (a0)) - 0)) + 292277022400)) 100) % 4294967296)) % 4294967296) / 4) + (((((979 * (((a1) % 4294967296) + (12 * 0))) % 4294967296) - 2919) % 4294967296) / 32)) % 4294967296) + a2)) - 1))))))) = some r := h
  clear h
  by_cases c4 : ((a1) % 4294967296) < 3
  · rw [if_pos c4] at H
    have c4b0 : decide (((a1) % 4294967296) < 3) = true := decide_eq_true c4
    clear c4
    obtain rfl := Option.some.inj H
    go_enter Tryz.func69, Tryz.ntmps69
    go_wp2
    go_ret
    exact ⟨by first | rfl | (simp; done) | (simp [*]; done), by repeat (first | exact Drawn0.refl _ | apply Drawn0.step)⟩
  · rw [if_neg c4] at H
    have c4b0 : decide (((a1) % 4294967296) < 3) = false := decide_eq_false c4
    clear c4
    obtain rfl := Option.some.inj H
    go_enter Tryz.func69, Tryz.ntmps69
    go_wp2
    go_ret
    exact ⟨by first | rfl | (simp; done) | (simp [*]; done), by repeat (first | exact Drawn0.refl _ | apply Drawn0.step)⟩
end Go.Proofs.YtkhgeonlohafgaaGreatDoor.Core
namespace Go.Proofs.YtkhgeonlohafgaaGreatDoor.Core
open Go.RowKit Go.Proofs.YtkhgeonlohafgaaGreatDoorW.PrintWords Go.Proofs.YtkhgeonlohafgaaGreatDoorW.PrintLast Go.Proofs.YtkhgeonlohafgaaGreatDoorW.PrintMore
attribute [local go_sem] max2_int min2_int max_two min_two max_three min_three max_four min_four   -- for this text's walks alone
set_option linter.unusedVariables false
set_option linter.unusedSimpArgs false
def bits_Mul32.f (a0 : Int) (a1 : Int) : Option (Int × Int) := some (((IntKind.u64.wrap ((IntKind.u64.wrap (a0)) * (IntKind.u64.wrap (a1)))) / 4294967296) % 4294967296, (IntKind.u64.wrap ((IntKind.u64.wrap (a0)) * (IntKind.u64.wrap (a1)))) % 4294967296)
set_option maxHeartbeats 8000000 in
set_option maxRecDepth 100000 in
theorem bits_Mul32.calls (a0 : Int) (a1 : Int) (r1 : Int) (r2 : Int) (w : World) (h : bits_Mul32.f a0 a1 = some (r1, r2)) :
    Calls Tryz.prog 116 #[.int .u32 a0, .int .u32 a1] w fun e w' => e = .returned (.tuple #[.int .u32 r1, .int .u32 r2]) ∧ Drawn0 w w' := by
  have H : (some (((IntKind.u64.wrap ((IntKind.u64.wrap (a0)) * (IntKind.u64.wrap (a1)))) / 4294967296) % 4294967296, (IntKind.u64.wrap ((IntKind.u64.wrap (a0)) * (IntKind.u64.wrap (a1)))) % 4294967296)) = some (r1, r2) := h
  clear h
  simp only [Option.some.injEq, Prod.mk.injEq] at H
  obtain ⟨rfl, rfl⟩ := H
  go_enter Tryz.func116, Tryz.ntmps116
  go_wp2
  go_ret2
  exact ⟨by first | rfl | (simp; done) | (simp [*]; done), by repeat (first | exact Drawn0.refl _ | apply Drawn0.step)⟩
end Go.Proofs.YtkhgeonlohafgaaGreatDoor.Core
namespace Go.Proofs.YtkhgeonlohafgaaGreatDoor.Core
open Go.RowKit Go.Proofs.YtkhgeonlohafgaaGreatDoorW.PrintWords Go.Proofs.YtkhgeonlohafgaaGreatDoorW.PrintLast Go.Proofs.YtkhgeonlohafgaaGreatDoorW.PrintMore
attribute [local go_sem] max2_int min2_int max_two min_two max_three min_three max_four min_four   -- for this text's walks alone
set_option linter.unusedVariables false
set_option linter.unusedSimpArgs false
def gotime_absDays_split.f (a0 : Int) : Option (Int × Int × Int) := (bits_Mul32.f 2939745 (Go.bits .or .u32 ((Int.tmod (IntKind.u64.wrap ((IntKind.u64.wrap (4 * a0)) + 3)) 146097) % 4294967296) 3)).bind fun bt550 => (some (IntKind.u64.wrap (Int.tdiv (IntKind.u64.wrap ((IntKind.u64.wrap (4 * a0)) + 3)) 146097), wrap64 (bt550.1), ((Int.tdiv bt550.2 2939745) % 4294967296) / 4))
set_option maxHeartbeats 8000000 in
set_option maxRecDepth 100000 in
theorem gotime_absDays_split.calls (a0 : Int) (r1 : Int) (r2 : Int) (r3 : Int) (w : World) (h : gotime_absDays_split.f a0 = some (r1, r2, r3)) :
    Calls Tryz.prog 91 #[.int .u64 a0] w fun e w' => e = .returned (.tuple #[.int .u64 r1, .int .i64 r2, .int .i64 r3]) ∧ Drawn0 w w' := by
  have H : ((bits_Mul32.f 2939745 (Go.bits .or .u32 ((Int.tmod (IntKind.u64.wrap ((IntKind.u64.wrap (4 * a0)) + 3)) 146097) % 4294967296) 3)).bind fun bt550 => (some (IntKind.u64.wrap (Int.tdiv (IntKind.u64.wrap ((IntKind.u64.wrap (4 * a0)) + 3)) 146097), wrap64 (bt550.1), ((Int.tdiv bt550.2 2939745) % 4294967296) / 4))) = some (r1, r2, r3) := h
  clear h
  replace H := Option.bind_eq_some_iff.mp H
  obtain ⟨⟨t550, t551⟩, A20, H⟩ := H
  replace H : (some (IntKind.u64.wrap (Int.tdiv (IntKind.u64.wrap ((IntKind.u64.wrap (4 * a0)) + 3)) 146097), wrap64 (t550), ((Int.tdiv t551 2939745) % 4294967296) / 4)) = some (r1, r2, r3) := H
  have A2 := Aside0.mk A20
  clear A20
  simp only [Option.some.injEq, Prod.mk.injEq] at H
  obtain ⟨rfl, rfl, rfl⟩ := H
  go_enter Tryz.func91, Tryz.ntmps91
  go_wp2_with (first | ((with_reducible refine gate_callee (f := 116) rfl ?_); refine goesL_ (some 20) rfl rfl Tryz.func116 (by kernel_rfl) rfl #[.int .u32 2939745, .int .u32 (Go.bits .or .u32 ((Int.tmod (IntKind.u64.wrap ((IntKind.u64.wrap (4 * a0)) + 3)) 146097) % 4294967296) 3)] rfl (by (try simp only [List.map_toArray, List.map_cons, List.map_nil]); first | done | rfl | (simp only [List.length_drop, List.length_take]; rfl)) ?_; (with_reducible refine (bits_Mul32.calls 2939745 (Go.bits .or .u32 ((Int.tmod (IntKind.u64.wrap ((IntKind.u64.wrap (4 * a0)) + 3)) 146097) % 4294967296) 3) t550 t551 _ A2.out).mono ?_); rintro e w' ⟨rfl, ⟨nd, rfl⟩⟩; refine ⟨_, rfl, ?_⟩))
  go_ret3
  exact ⟨by first | rfl | (simp; done) | (simp [*]; done), by repeat (first | exact Drawn0.refl _ | apply Drawn0.step)⟩
end Go.Proofs.YtkhgeonlohafgaaGreatDoor.Core
namespace Go.Proofs.YtkhgeonlohafgaaGreatDoor.Core
open Go.RowKit Go.Proofs.YtkhgeonlohafgaaGreatDoorW.PrintWords Go.Proofs.YtkhgeonlohafgaaGreatDoorW.PrintLast Go.Proofs.YtkhgeonlohafgaaGreatDoorW.PrintMore
attribute [local go_sem] max2_int min2_int max_two min_two max_three min_three max_four min_four   -- for this text's walks alone
set_option linter.unusedVariables false
set_option linter.unusedSimpArgs false
def gotime_absYday_janFeb.f (a0 : Int) : Option (Int) := if a0 ≥ 306 then (some 1) else (some 0)
set_option maxHeartbeats 8000000 in
set_option maxRecDepth 100000 in
theorem gotime_absYday_janFeb.calls (a0 : Int) (r : Int) (w : World) (h : gotime_absYday_janFeb.f a0 = some r) :
    Calls Tryz.prog 92 #[.int .i64 a0] w fun e w' => e = .returned (.int .i64 r) ∧ Drawn0 w w' := by
  have H : (if a0 ≥ 306 then (some 1) else (some 0)) = some r := h
  clear h
  by_cases c2 : a0 ≥ 306
  · rw [if_pos c2] at H
    have c2b0 : decide (306 ≤ a0) = true := decide_eq_true c2
    clear c2
    obtain rfl := Option.some.inj H
    go_enter Tryz.func92, Tryz.ntmps92
    go_wp2
    go_ret
    exact ⟨by first | rfl | (simp; done) | (simp [*]; done), by repeat (first | exact Drawn0.refl _ | apply Drawn0.step)⟩
  · rw [if_neg c2] at H
    have c2b0 : decide (306 ≤ a0) = false := decide_eq_false c2
    clear c2
    obtain rfl := Option.some.inj H
    go_enter Tryz.func92, Tryz.ntmps92
    go_wp2
    go_ret
    exact ⟨by first | rfl | (simp; done) | (simp [*]; done), by repeat (first | exact Drawn0.refl _ | apply Drawn0.step)⟩
end Go.Proofs.YtkhgeonlohafgaaGreatDoor.Core
namespace Go.Proofs.YtkhgeonlohafgaaGreatDoor.Core
open Go.RowKit Go.Proofs.YtkhgeonlohafgaaGreatDoorW.PrintWords Go.Proofs.YtkhgeonlohafgaaGreatDoorW.PrintLast Go.Proofs.YtkhgeonlohafgaaGreatDoorW.PrintMore
attribute [local go_sem] max2_int min2_int max_two min_two max_three min_three max_four min_four   -- for this text's walks alone
set_option linter.unusedVariables false
set_option linter.unusedSimpArgs false
def gotime_absCentury_year.f (a0 : Int) (a1 : Int) (a2 : Int) : Option (Int) := some (wrap64 ((wrap64 ((wrap64 (IntKind.u64.wrap ((IntKind.u64.wrap (a0 * 100)) - 292277022400))) + a1)) + a2))
set_option maxHeartbeats 8000000 in
set_option maxRecDepth 100000 in
theorem gotime_absCentury_year.calls (a0 : Int) (a1 : Int) (a2 : Int) (r : Int) (w : World) (h : gotime_absCentury_year.f a0 a1 a2 = some r) :
    Calls Tryz.prog 93 #[.int .u64 a0, .int .i64 a1, .int .i64 a2] w fun e w' => e = .returned (.int .i64 r) ∧ Drawn0 w w' := by
  have H : (some (wrap64 ((wrap64 ((wrap64 (IntKind.u64.wrap ((IntKind.u64.wrap (a0 * 100)) - 292277022400))) + a1)) + a2))) = some r := h
  clear h
  obtain rfl := Option.some.inj H
  go_enter Tryz.func93, Tryz.ntmps93
  go_wp2
  go_ret
  exact ⟨by first | rfl | (simp; done) | (simp [*]; done), by repeat (first | exact Drawn0.refl _ | apply Drawn0.step)⟩
end Go.Proofs.YtkhgeonlohafgaaGreatDoor.Core
namespace Go.Proofs.YtkhgeonlohafgaaGreatDoor.Core
open Go.RowKit Go.Proofs.YtkhgeonlohafgaaGreatDoorW.PrintWords Go.Proofs.YtkhgeonlohafgaaGreatDoorW.PrintLast Go.Proofs.YtkhgeonlohafgaaGreatDoorW.PrintMore
attribute [local go_sem] max2_int min2_int max_two min_two max_three min_three max_four min_four   -- for this text's walks alone
set_option linter.unusedVariables false
set_option linter.unusedSimpArgs false
def gotime_absYday_split.f (a0 : Int) : Option (Int × Int) := some (((((2141 * ((a0) % 4294967296)) % 4294967296) + 197913) % 4294967296) / 65536, 1 + ((Int.tdiv (Go.bits .and .u32 ((((2141 * ((a0) % 4294967296)) % 4294967296) + 197913) % 4294967296) 65535) 2141) % 4294967296))
set_option maxHeartbeats 8000000 in
set_option maxRecDepth 100000 in
theorem gotime_absYday_split.calls (a0 : Int) (r1 : Int) (r2 : Int) (w : World) (h : gotime_absYday_split.f a0 = some (r1, r2)) :
    Calls Tryz.prog 94 #[.int .i64 a0] w fun e w' => e = .returned (.tuple #[.int .i64 r1, .int .i64 r2]) ∧ Drawn0 w w' := by
  have H : (some (((((2141 * ((a0) % 4294967296)) % 4294967296) + 197913) % 4294967296) / 65536, 1 + ((Int.tdiv (Go.bits .and .u32 ((((2141 * ((a0) % 4294967296)) % 4294967296) + 197913) % 4294967296) 65535) 2141) % 4294967296))) = some (r1, r2) := h
  clear h
  simp only [Option.some.injEq, Prod.mk.injEq] at H
  obtain ⟨rfl, rfl⟩ := H
  go_enter Tryz.func94, Tryz.ntmps94
  go_wp2
  go_ret2
  exact ⟨by first | rfl | (simp; done) | (simp [*]; done), by repeat (first | exact Drawn0.refl _ | apply Drawn0.step)⟩
end Go.Proofs.YtkhgeonlohafgaaGreatDoor.Core
namespace Go.Proofs.YtkhgeonlohafgaaGreatDoor.Core
open Go.RowKit Go.Proofs.YtkhgeonlohafgaaGreatDoorW.PrintWords Go.Proofs.YtkhgeonlohafgaaGreatDoorW.PrintLast Go.Proofs.YtkhgeonlohafgaaGreatDoorW.PrintMore
attribute [local go_sem] max2_int min2_int max_two min_two max_three min_three max_four min_four   -- for this text's walks alone
set_option linter.unusedVariables false
set_option linter.unusedSimpArgs false
def gotime_absMonth_month.f (a0 : Int) (a1 : Int) : Option (Int) := some (wrap64 (a0 - (wrap64 (a1 * 12))))
set_option maxHeartbeats 8000000 in
set_option maxRecDepth 100000 in
theorem gotime_absMonth_month.calls (a0 : Int) (a1 : Int) (r : Int) (w : World) (h : gotime_absMonth_month.f a0 a1 = some r) :
    Calls Tryz.prog 95 #[.int .i64 a0, .int .i64 a1] w fun e w' => e = .returned (.int .i64 r) ∧ Drawn0 w w' := by
  have H : (some (wrap64 (a0 - (wrap64 (a1 * 12))))) = some r := h
  clear h
  obtain rfl := Option.some.inj H
  go_enter Tryz.func95, Tryz.ntmps95
  go_wp2
  go_ret
  exact ⟨by first | rfl | (simp; done) | (simp [*]; done), by repeat (first | exact Drawn0.refl _ | apply Drawn0.step)⟩
end Go.Proofs.YtkhgeonlohafgaaGreatDoor.Core
namespace Go.Proofs.YtkhgeonlohafgaaGreatDoor.Core
open Go.RowKit Go.Proofs.YtkhgeonlohafgaaGreatDoorW.PrintWords Go.Proofs.YtkhgeonlohafgaaGreatDoorW.PrintLast Go.Proofs.YtkhgeonlohafgaaGreatDoorW.PrintMore
attribute [local go_sem] max2_int min2_int max_two min_two max_three min_three max_four min_four   -- for this text's walks alone
set_option linter.unusedVariables false
set_option linter.unusedSimpArgs false
end Go.Proofs.YtkhgeonlohafgaaGreatDoor.Core
namespace Go.Proofs.YtkhgeonlohafgaaGreatDoor.Core
open Go.RowKit Go.Proofs.YtkhgeonlohafgaaGreatDoorW.PrintWords Go.Proofs.YtkhgeonlohafgaaGreatDoorW.PrintLast Go.Proofs.YtkhgeonlohafgaaGreatDoorW.PrintMore
attribute [local go_sem] max2_int min2_int max_two min_two max_three min_three max_four min_four   -- for this text's walks alone
set_option linter.unusedVariables false
set_option linter.unusedSimpArgs false
def gotime_absDays_weekday.f (a0 : Int) : Option (Int) := some (wrap64 (Int.tmod (IntKind.u64.wrap (a0 + 3)) 7))
set_option maxHeartbeats 8000000 in
set_option maxRecDepth 100000 in
theorem gotime_absDays_weekday.calls (a0 : Int) (r : Int) (w : World) (h : gotime_absDays_weekday.f a0 = some r) :
    Calls Tryz.prog 111 #[.int .u64 a0] w fun e w' => e = .returned (.int .i64 r) ∧ Drawn0 w w' := by
  have H : (some (wrap64 (Int.tmod (IntKind.u64.wrap (a0 + 3)) 7))) = some r := h
  clear h
  obtain rfl := Option.some.inj H
  go_enter Tryz.func111, Tryz.ntmps111
  go_wp2
  go_ret
  exact ⟨by first | rfl | (simp; done) | (simp [*]; done), by repeat (first | exact Drawn0.refl _ | apply Drawn0.step)⟩
end Go.Proofs.YtkhgeonlohafgaaGreatDoor.Core
namespace Go.Proofs.YtkhgeonlohafgaaGreatDoor.Core
open Go.RowKit Go.Proofs.YtkhgeonlohafgaaGreatDoorW.PrintWords Go.Proofs.YtkhgeonlohafgaaGreatDoorW.PrintLast Go.Proofs.YtkhgeonlohafgaaGreatDoorW.PrintMore
attribute [local go_sem] max2_int min2_int max_two min_two max_three min_three max_four min_four   -- for this text's walks alone
set_option linter.unusedVariables false
set_option linter.unusedSimpArgs false
def gotime_absSeconds_days.f (a0 : Int) : Option (Int) := some (IntKind.u64.wrap (Int.tdiv a0 86400))
set_option maxHeartbeats 8000000 in
set_option maxRecDepth 100000 in
theorem gotime_absSeconds_days.calls (a0 : Int) (r : Int) (w : World) (h : gotime_absSeconds_days.f a0 = some r) :
    Calls Tryz.prog 90 #[.int .u64 a0] w fun e w' => e = .returned (.int .u64 r) ∧ Drawn0 w w' := by
  have H : (some (IntKind.u64.wrap (Int.tdiv a0 86400))) = some r := h
  clear h
  obtain rfl := Option.some.inj H
  go_enter Tryz.func90, Tryz.ntmps90
  go_wp2
  go_ret
  exact ⟨by first | rfl | (simp; done) | (simp [*]; done), by repeat (first | exact Drawn0.refl _ | apply Drawn0.step)⟩
end Go.Proofs.YtkhgeonlohafgaaGreatDoor.Core
namespace Go.Proofs.YtkhgeonlohafgaaGreatDoor.Core
open Go.RowKit Go.Proofs.YtkhgeonlohafgaaGreatDoorW.PrintWords
def B (l : List UInt8) : ByteArray := ⟨l.toArray⟩
theorem B_size (l : List UInt8) : (B l).size = l.length := by simp [B, ByteArray.size]
theorem B_data (l : List UInt8) : (B l).data.toList = l := by simp [B]
theorem B_list (l : List UInt8) : (B l).toList = l := by rw [Lib.toList_data, B_data]
theorem B_of (s : ByteArray) : B s.data.toList = s := by cases s; simp [B]
theorem B_ext_iff {s t : ByteArray} (h : s.data.toList = t.data.toList) : s = t := by rw [← B_of s, ← B_of t, h]
theorem B_app (l m : List UInt8) : B l ++ B m = B (l ++ m) := by
  apply B_ext_iff
  rw [B_data, ByteArray.data_append, Array.toList_append, B_data, B_data]
theorem B_cut (l : List UInt8) (i j : Nat) : (B l).extract i j = B ((l.drop i).take (j - i)) := by
  apply B_ext_iff
  rw [Lib.extract_data, B_data, B_data]
theorem B_bytesOf (l : List UInt8) : bytesOf (B l) = l.map fun b => (b.toNat : Int) := by rw [bytesOf, B_data]
theorem strOfNums_B (l : List UInt8) : strOfNums (l.map fun b => (b.toNat : Int)) = B l := by
  unfold strOfNums B
  congr 2
  rw [List.map_map]
  conv => rhs; rw [← List.map_id l]
  apply List.map_congr_left
  intro b _
  simp
theorem bt_B (l : List UInt8) (i : Int) (h0 : 0 ≤ i) (h : i < (l.length : Int)) : bt (B l) i = ((l[i.toNat]'(by omega)).toNat : Int) := by
  unfold bt
  rw [dif_pos (by rw [B_size]; omega)]
  have : (B l)[i.toNat]'(by rw [B_size]; omega) = l[i.toNat]'(by omega) := by simp [B, ByteArray.getElem_eq_getElem_data]
  rw [this]
theorem bt_B_at (l : List UInt8) (i : Nat) (h : i < l.length) : bt (B l) (i : Int) = ((l[i]).toNat : Int) := by
  rw [bt_B l _ (by omega) (by omega)]; simp
theorem wrap64_id {i : Int} (h0 : -9223372036854775808 ≤ i) (h1 : i ≤ 9223372036854775807) : wrap64 i = i := by unfold wrap64; omega
theorem wrap64_nat (i : Nat) (h : i < 9223372036854775807) : wrap64 ((i : Int) + 1) = ((i + 1 : Nat) : Int) := by rw [wrap64_id (by omega) (by omega)]; rfl
theorem Ev.round {α : Type} {g f : Nat → Option α} {r : α} (k : Ev f r) (h : ∀ k, g (k + 1) = f k) : Ev g r := Ev.step h k
theorem Ev.eq {α : Type} {g : Nat → Option α} {r : α} (r' : α) (h : Ev g r') (e : r' = r) : Ev g r := e ▸ h
theorem Ev.done {α : Type} {g : Nat → Option α} {r : α} (h : ∀ k, g (k + 1) = some r) : Ev g r := Ev.step h (Ev.now r)
theorem Ev.const {α : Type} {o : Option α} {r : α} (h : o = some r) : Ev (fun _ => o) r := ⟨0, fun _ _ => h⟩
def decN (n : Nat) : List UInt8 := if _h : n < 10 then [UInt8.ofNat (48 + n)] else decN (n / 10) ++ [UInt8.ofNat (48 + n % 10)]
termination_by n
theorem decN_lt (n : Nat) (h : n < 10) : decN n = [UInt8.ofNat (48 + n)] := by rw [decN, dif_pos h]
theorem decN_ge (n : Nat) (h : ¬ n < 10) : decN n = decN (n / 10) ++ [UInt8.ofNat (48 + n % 10)] := by rw [decN, dif_neg h]
theorem decN_digit (n : Nat) : ∀ b ∈ decN n, 48 ≤ b.toNat ∧ b.toNat ≤ 57 := by
  induction n using decN.induct with
  | case1 n h =>
    rw [decN_lt n h]
    intro b hb
    rw [List.mem_singleton] at hb
    subst hb
    have : (48 + n) % 256 = 48 + n := by omega
    simp [this]
    omega
  | case2 n h ih =>
    rw [decN_ge n h]
    intro b hb
    rcases List.mem_append.1 hb with hb | hb
    · exact ih b hb
    · rw [List.mem_singleton] at hb
      subst hb
      have : (48 + n % 10) % 256 = 48 + n % 10 := by omega
      simp [this]
      omega
theorem decN_ne (n : Nat) : decN n ≠ [] := by
  by_cases h : n < 10
  · rw [decN_lt n h]; simp
  · rw [decN_ge n h]; simp
theorem decN_length (n : Nat) (m : Nat) (h : n < 10 ^ (m + 1)) : (decN n).length ≤ m + 1 := by
  induction m generalizing n with
  | zero => rw [decN_lt n (by simpa using h)]; simp
  | succ m ih =>
    by_cases h10 : n < 10
    · rw [decN_lt n h10]; simp
    · rw [decN_ge n h10]
      have := ih (n / 10) (by rw [Nat.div_lt_iff_lt_mul (by omega)]; rw [Nat.pow_succ] at h; exact h)
      simp
      omega
end Go.Proofs.YtkhgeonlohafgaaGreatDoor.Core
namespace Go.Proofs.YtkhgeonlohafgaaGreatDoor.Core
open Go.RowKit Go.Proofs.YtkhgeonlohafgaaGreatDoorW.PrintWords
def leapI (y : Int) : Bool := decide (y % 4 = 0) && (decide (y % 100 ≠ 0) || decide (y % 400 = 0))
def daysI (y mo : Int) : Int := if mo = 2 ∧ leapI y = true then 29 else rd [0, 31, 28, 31, 30, 31, 30, 31, 31, 30, 31, 30, 31] mo
structure DateOk (y mo d : Int) : Prop where
  y0 : 1989 ≤ y
  y1 : y ≤ 2092
  m0 : 1 ≤ mo
  m1 : mo ≤ 12
  d0 : 1 ≤ d
  d1 : d ≤ daysI y mo
def jfI (mo : Int) : Int := (14 - mo) / 12
def aydI (mo d : Int) : Int := (979 * (mo + 12 * jfI mo) - 2919) / 32 + d - 1
def absD (y mo d : Int) : Int := 146097 * ((y - jfI mo + 292277022400) / 100) / 4 + 1461 * ((y - jfI mo + 292277022400) % 100) / 4 + aydI mo d
theorem u64_id {x : Int} (h0 : 0 ≤ x) (h1 : x < 18446744073709551616) : IntKind.u64.wrap x = x := by
  have : IntKind.u64.wrap x = x % 18446744073709551616 := rfl
  omega
theorem months {mo : Int} (h0 : 1 ≤ mo) (h1 : mo ≤ 12) : mo = 1 ∨ mo = 2 ∨ mo = 3 ∨ mo = 4 ∨ mo = 5 ∨ mo = 6 ∨ mo = 7 ∨ mo = 8 ∨ mo = 9 ∨ mo = 10 ∨ mo = 11 ∨ mo = 12 := by omega
theorem dateToAbs_eq (y mo d : Int) (y0 : 1989 ≤ y) (y1 : y ≤ 2092) (m0 : 1 ≤ mo) (m1 : mo ≤ 12) (d0 : 1 ≤ d) (d1 : d ≤ 32) : gotime_dateToAbsDays.f y mo d = some (absD y mo d) := by
  unfold gotime_dateToAbsDays.f absD aydI jfI
  rcases months m0 m1 with h | h | h | h | h | h | h | h | h | h | h | h <;> subst h <;>
    (first | rw [if_pos (by decide)] | rw [if_neg (by decide)]) <;>
    simp (disch := omega) only [u64_id, wrap64_id, Int.tdiv_eq_ediv_of_nonneg, Int.tmod_eq_emod_of_nonneg, Int.emod_eq_of_lt, Int.reduceSub, Int.reduceDiv, Int.reduceAdd, Int.reduceMul, Int.sub_zero] <;>
    exact congrArg some (by omega)
theorem or3 (n : Int) (h0 : 0 ≤ n) (h1 : n < 1000000) : Go.bits .or .u32 n 3 = n / 4 * 4 + 3 := by
  obtain ⟨m, rfl⟩ : ∃ m : Nat, n = m := ⟨n.toNat, by omega⟩
  have e := u32_or_nat m 3 (by omega) (by omega)
  rw [show ((3 : Nat) : Int) = 3 from rfl] at e
  rw [e]
  have e2 : m ||| 3 = m / 4 * 4 + 3 := by
    have h4 : 2 ^ 2 * (m / 4) + m % 4 = 2 ^ 2 * (m / 4) ||| m % 4 := Nat.two_pow_add_eq_or_of_lt (by omega) _
    have h5 : 2 ^ 2 * (m / 4) + 3 = 2 ^ 2 * (m / 4) ||| 3 := Nat.two_pow_add_eq_or_of_lt (by omega) _
    have hr : m % 4 ||| 3 = 3 := by
      have : m % 4 < 4 := Nat.mod_lt _ (by omega)
      rcases (by omega : m % 4 = 0 ∨ m % 4 = 1 ∨ m % 4 = 2 ∨ m % 4 = 3) with h | h | h | h <;> rw [h] <;> rfl
    have hm : m = 2 ^ 2 * (m / 4) + m % 4 := by omega
    calc m ||| 3 = (2 ^ 2 * (m / 4) ||| m % 4) ||| 3 := by rw [← h4, ← hm]
      _ = 2 ^ 2 * (m / 4) ||| (m % 4 ||| 3) := Nat.or_assoc _ _ _
      _ = m / 4 * 4 + 3 := by rw [hr, ← h5]; omega
  omega
theorem and16 (n : Int) (h0 : 0 ≤ n) (h1 : n < 4294967296) : Go.bits .and .u32 n 65535 = n % 65536 := by
  obtain ⟨m, rfl⟩ : ∃ m : Nat, n = m := ⟨n.toNat, by omega⟩
  have e := u32_and_nat m 65535 (by omega) (by omega)
  rw [show ((65535 : Nat) : Int) = 65535 from rfl] at e
  rw [e]
  have e2 : m &&& 65535 = m % 65536 := Nat.and_two_pow_sub_one_eq_mod m 16
  omega
theorem leap_spec (y : Int) : leapI y = true ↔ y % 4 = 0 ∧ (y % 100 ≠ 0 ∨ y % 400 = 0) := by
  unfold leapI
  simp
theorem daysI_cases (y mo : Int) (m0 : 1 ≤ mo) (m1 : mo ≤ 12) : daysI y mo ≤ 31 ∧ 28 ≤ daysI y mo ∧ (mo = 2 → daysI y mo = if leapI y = true then 29 else 28) ∧ (mo = 4 ∨ mo = 6 ∨ mo = 9 ∨ mo = 11 → daysI y mo = 30) ∧ (mo = 1 ∨ mo = 3 ∨ mo = 5 ∨ mo = 7 ∨ mo = 8 ∨ mo = 10 ∨ mo = 12 → daysI y mo = 31) := by
  unfold daysI
  rcases months m0 m1 with h | h | h | h | h | h | h | h | h | h | h | h <;> subst h <;> cases hl : leapI y <;> simp [rd]
theorem split_at (C cy ayd : Int) (hC : C = 2922770243 ∨ (C = 2922770244 ∧ cy ≤ 95)) (c0 : 0 ≤ cy) (c1 : cy ≤ 99) (a0 : 0 ≤ ayd) (a1 : ayd ≤ 365) (a2 : ayd = 365 → cy % 4 = 3) :
    gotime_absDays_split.f (146097 * C / 4 + 1461 * cy / 4 + ayd) = some (C, cy, ayd) := by
  unfold gotime_absDays_split.f bits_Mul32.f
  have e1 : IntKind.u64.wrap (IntKind.u64.wrap (4 * (146097 * C / 4 + 1461 * cy / 4 + ayd)) + 3) = 4 * (146097 * C / 4 + 1461 * cy / 4 + ayd) + 3 := by
    rw [u64_id (x := 4 * (146097 * C / 4 + 1461 * cy / 4 + ayd)) (by omega) (by omega), u64_id (by omega) (by omega)]
  rw [e1, Int.tdiv_eq_ediv_of_nonneg (by omega), Int.tmod_eq_emod_of_nonneg (by omega)]
  have e2 : (4 * (146097 * C / 4 + 1461 * cy / 4 + ayd) + 3) / 146097 = C := by rcases hC with h | ⟨h, h95⟩ <;> subst h <;> omega
  have e3 : (4 * (146097 * C / 4 + 1461 * cy / 4 + ayd) + 3) % 146097 / 4 * 4 + 3 = 1461 * cy - cy % 4 + 4 * ayd + 3 := by rcases hC with h | ⟨h, h95⟩ <;> subst h <;> omega
  have e4 : (4 * (146097 * C / 4 + 1461 * cy / 4 + ayd) + 3) % 146097 % 4294967296 = (4 * (146097 * C / 4 + 1461 * cy / 4 + ayd) + 3) % 146097 := by omega
  rw [e2, e4, or3 _ (by omega) (by omega), e3]
  have b1 : 0 ≤ 1461 * cy - cy % 4 + 4 * ayd + 3 := by omega
  have b2 : 1461 * cy - cy % 4 + 4 * ayd + 3 < 146200 := by omega
  rw [u64_id (x := 2939745) (by omega) (by omega), u64_id (x := 1461 * cy - cy % 4 + 4 * ayd + 3) b1 (by omega), u64_id (x := 2939745 * (1461 * cy - cy % 4 + 4 * ayd + 3)) (by omega) (by omega), u64_id (x := C) (by omega) (by omega)]
  simp only [Option.bind_some]
  obtain ⟨r, hr⟩ : ∃ r : Int, r = 4 * ayd + 3 - cy % 4 := ⟨_, rfl⟩
  have hr0 : 0 ≤ r := by omega
  have hr1 : r ≤ 1460 := by omega
  have e5 : 2939745 * (1461 * cy - cy % 4 + 4 * ayd + 3) = 4294967296 * cy + (149 * cy + 2939745 * r) := by subst hr; omega
  rw [e5]
  obtain ⟨X, hX⟩ : ∃ X : Int, X = 149 * cy + 2939745 * r := ⟨_, rfl⟩
  have hX0 : 0 ≤ X := by omega
  have hX1 : X < 4294967296 := by omega
  have e9 : X / 2939745 = r := by omega
  rw [← hX]
  clear e1 e2 e3 e4 e5 b1 b2 hX
  have e6 : (4294967296 * cy + X) / 4294967296 = cy := by omega
  have e7 : (4294967296 * cy + X) % 4294967296 = X := by omega
  rw [e6, e7, Int.emod_eq_of_lt (by omega) (by omega), wrap64_id (by omega) (by omega), Int.tdiv_eq_ediv_of_nonneg (by omega), e9]
  have e8 : r % 4294967296 / 4 = ayd := by omega
  rw [e8]
theorem jf_01 {mo : Int} (h0 : 1 ≤ mo) (h1 : mo ≤ 12) : 0 ≤ jfI mo ∧ jfI mo ≤ 1 := by unfold jfI; omega
theorem ayd_range {y mo d : Int} (h : DateOk y mo d) : 0 ≤ aydI mo d ∧ aydI mo d ≤ 365 ∧ (aydI mo d = 365 → (y - jfI mo + 292277022400) % 100 % 4 = 3) := by
  obtain ⟨y0, y1, m0, m1, d0, d1⟩ := h
  obtain ⟨q1, q2, q3, q4, q5⟩ := daysI_cases y mo m0 m1
  unfold aydI jfI
  rcases months m0 m1 with h | h | h | h | h | h | h | h | h | h | h | h
  · have := q5 (by omega); subst h; refine ⟨by omega, by omega, by omega⟩
  · have := q3 h
    subst h
    cases hl : leapI y with
    | true =>
      have hlp := (leap_spec y).1 hl
      rw [hl] at this
      simp at this
      refine ⟨by omega, by omega, by omega⟩
    | false =>
      rw [hl] at this
      simp at this
      refine ⟨by omega, by omega, by omega⟩
  · have := q5 (by omega); subst h; refine ⟨by omega, by omega, by omega⟩
  · have := q4 (by omega); subst h; refine ⟨by omega, by omega, by omega⟩
  · have := q5 (by omega); subst h; refine ⟨by omega, by omega, by omega⟩
  · have := q4 (by omega); subst h; refine ⟨by omega, by omega, by omega⟩
  · have := q5 (by omega); subst h; refine ⟨by omega, by omega, by omega⟩
  · have := q5 (by omega); subst h; refine ⟨by omega, by omega, by omega⟩
  · have := q4 (by omega); subst h; refine ⟨by omega, by omega, by omega⟩
  · have := q5 (by omega); subst h; refine ⟨by omega, by omega, by omega⟩
  · have := q4 (by omega); subst h; refine ⟨by omega, by omega, by omega⟩
  · have := q5 (by omega); subst h; refine ⟨by omega, by omega, by omega⟩
theorem split_date {y mo d : Int} (h : DateOk y mo d) : gotime_absDays_split.f (absD y mo d) = some ((y - jfI mo + 292277022400) / 100, (y - jfI mo + 292277022400) % 100, aydI mo d) := by
  obtain ⟨r1, r2, r3⟩ := ayd_range h
  have hj := jf_01 h.m0 h.m1
  have := h.y0
  have := h.y1
  exact split_at _ _ _ (by omega) (by omega) (by omega) r1 r2 r3
theorem aydSplit {y mo d : Int} (h : DateOk y mo d) : gotime_absYday_split.f (aydI mo d) = some (mo + 12 * jfI mo, d) ∧ gotime_absYday_janFeb.f (aydI mo d) = some (jfI mo) ∧ gotime_absMonth_month.f (mo + 12 * jfI mo) (jfI mo) = some mo := by
  obtain ⟨y0, y1, m0, m1, d0, d1⟩ := h
  obtain ⟨q1, q2, q3, q4, q5⟩ := daysI_cases y mo m0 m1
  have key : ∀ A a : Int, 0 ≤ A → A ≤ 366 → (2141 * A + 197913) / 65536 = a → 0 ≤ (2141 * A + 197913) % 65536 / 2141 → gotime_absYday_split.f A = some (a, 1 + (2141 * A + 197913) % 65536 / 2141) := by
    intro A a h0 h1 ha h2
    unfold gotime_absYday_split.f
    have e1 : ((2141 * (A % 4294967296)) % 4294967296 + 197913) % 4294967296 = 2141 * A + 197913 := by omega
    rw [e1, and16 _ (by omega) (by omega), Int.tdiv_eq_ediv_of_nonneg (by omega), ha]
    have e2 : (2141 * A + 197913) % 65536 / 2141 % 4294967296 = (2141 * A + 197913) % 65536 / 2141 := by omega
    rw [e2]
  have fin : ∀ (c : Int), aydI mo d = c + d - 1 → 0 ≤ c + d - 1 → c + d - 1 ≤ 366 → (2141 * (c + d - 1) + 197913) / 65536 = mo + 12 * jfI mo → (2141 * (c + d - 1) + 197913) % 65536 / 2141 = d - 1 →
      gotime_absYday_split.f (aydI mo d) = some (mo + 12 * jfI mo, d) := by
    intro c hc b0 b1 e1 e2
    rw [hc, key (c + d - 1) _ b0 b1 e1 (by omega), e2]
    congr 2
    omega
  have jf : ∀ (c : Int), aydI mo d = c + d - 1 → (c + d - 1 ≥ 306 ↔ jfI mo = 1) → (jfI mo = 0 ∨ jfI mo = 1) → gotime_absYday_janFeb.f (aydI mo d) = some (jfI mo) := by
    intro c hc hi h01
    rw [hc]
    unfold gotime_absYday_janFeb.f
    by_cases hg : c + d - 1 ≥ 306
    · rw [if_pos hg, hi.1 hg]
    · rw [if_neg hg]
      rcases h01 with h | h
      · rw [h]
      · exact absurd (hi.2 h) hg
  have mon : gotime_absMonth_month.f (mo + 12 * jfI mo) (jfI mo) = some mo := by
    have hj := jf_01 m0 m1
    unfold gotime_absMonth_month.f
    rw [wrap64_id (i := jfI mo * 12) (by omega) (by omega), wrap64_id (by omega) (by omega)]
    congr 1
    omega
  have all : ∀ (m : Int), mo = m → ∀ (c j n : Int), jfI m = j → (979 * (m + 12 * j) - 2919) / 32 = c → daysI y mo ≤ n → (0 ≤ c) → (j = 0 ∧ c + n ≤ 306 ∨ j = 1 ∧ 306 ≤ c ∧ c + n ≤ 367) →
      (∀ d : Int, 1 ≤ d → d ≤ n → (2141 * (c + d - 1) + 197913) / 65536 = m + 12 * j ∧ (2141 * (c + d - 1) + 197913) % 65536 / 2141 = d - 1) →
      gotime_absYday_split.f (aydI mo d) = some (mo + 12 * jfI mo, d) ∧ gotime_absYday_janFeb.f (aydI mo d) = some (jfI mo) ∧ gotime_absMonth_month.f (mo + 12 * jfI mo) (jfI mo) = some mo := by
    intro m hm c j n hj hc hn c0 hjn hd
    subst hm
    have ha : aydI mo d = c + d - 1 := by unfold aydI; rw [hj, hc]
    obtain ⟨g1, g2⟩ := hd d d0 (by omega)
    refine ⟨fin c ha (by omega) (by omega) (by rw [hj]; exact g1) g2, jf c ha (by rw [hj]; omega) (by rw [hj]; omega), mon⟩
  rcases months m0 m1 with h | h | h | h | h | h | h | h | h | h | h | h
  · exact all 1 h 306 1 31 rfl rfl (by have := q5 (by omega); omega) (by omega) (by omega) (fun d _ _ => by omega)
  · exact all 2 h 337 1 29 rfl rfl (by have := q3 h; split at this <;> omega) (by omega) (by omega) (fun d _ _ => by omega)
  · exact all 3 h 0 0 31 rfl rfl (by have := q5 (by omega); omega) (by omega) (by omega) (fun d _ _ => by omega)
  · exact all 4 h 31 0 30 rfl rfl (by have := q4 (by omega); omega) (by omega) (by omega) (fun d _ _ => by omega)
  · exact all 5 h 61 0 31 rfl rfl (by have := q5 (by omega); omega) (by omega) (by omega) (fun d _ _ => by omega)
  · exact all 6 h 92 0 30 rfl rfl (by have := q4 (by omega); omega) (by omega) (by omega) (fun d _ _ => by omega)
  · exact all 7 h 122 0 31 rfl rfl (by have := q5 (by omega); omega) (by omega) (by omega) (fun d _ _ => by omega)
  · exact all 8 h 153 0 31 rfl rfl (by have := q5 (by omega); omega) (by omega) (by omega) (fun d _ _ => by omega)
  · exact all 9 h 184 0 30 rfl rfl (by have := q4 (by omega); omega) (by omega) (by omega) (fun d _ _ => by omega)
  · exact all 10 h 214 0 31 rfl rfl (by have := q5 (by omega); omega) (by omega) (by omega) (fun d _ _ => by omega)
  · exact all 11 h 245 0 30 rfl rfl (by have := q4 (by omega); omega) (by omega) (by omega) (fun d _ _ => by omega)
  · exact all 12 h 275 0 31 rfl rfl (by have := q5 (by omega); omega) (by omega) (by omega) (fun d _ _ => by omega)
theorem centuryYear {y mo d : Int} (h : DateOk y mo d) : gotime_absCentury_year.f ((y - jfI mo + 292277022400) / 100) ((y - jfI mo + 292277022400) % 100) (jfI mo) = some y := by
  have hj := jf_01 h.m0 h.m1
  have := h.y0
  have := h.y1
  unfold gotime_absCentury_year.f
  have e : IntKind.u64.wrap (IntKind.u64.wrap ((y - jfI mo + 292277022400) / 100 * 100) - 292277022400) = (IntKind.u64.wrap ((y - jfI mo + 292277022400) / 100 * 100) - 292277022400) % 18446744073709551616 := rfl
  rw [e, u64_id (by omega) (by omega)]
  have e2 : ((y - jfI mo + 292277022400) / 100 * 100 - 292277022400) % 18446744073709551616 = (y - jfI mo + 292277022400) / 100 * 100 - 292277022400 := by omega
  rw [e2, wrap64_id (i := (y - jfI mo + 292277022400) / 100 * 100 - 292277022400) (by omega) (by omega), wrap64_id (i := _ + (y - jfI mo + 292277022400) % 100) (by omega) (by omega), wrap64_id (by omega) (by omega)]
  congr 1
  omega
end Go.Proofs.YtkhgeonlohafgaaGreatDoor.Core
namespace Go.Proofs.YtkhgeonlohafgaaGreatDoor.Core
open Go.RowKit
theorem no_mono : (bits BinOp.and IntKind.u64 0 9223372036854775808 != 0) = false := by kernel_rfl
theorem ret_i64 {a b : Int} (h : a = b) : Ending.returned (.int .i64 a) = .returned (.int .i64 b) := by rw [h]
theorem ret_u64 {a b : Int} (h : a = b) : Ending.returned (.int .u64 a) = .returned (.int .u64 b) := by rw [h]
theorem sec_any (g : Nat) (x : Int) (w : World) (h0 : w.cell? ⟨g, 0, none⟩ = some (.int .u64 0)) (h1 : w.cell? ⟨g, 1, none⟩ = some (.int .i64 x)) :
    Calls Tryz.prog 119 #[.pointer (some ⟨g, 0, none⟩)] w fun e w' => e = .returned (.int .i64 x) ∧ w = w' := by
  have hm := no_mono
  go_enter Tryz.func119, Tryz.ntmps119
  go_wp2
  go_ret
  exact ⟨rfl, rfl⟩
theorem unixSec_any (g : Nat) (x : Int) (w : World) (hx0 : 62700000000 ≤ x) (hx1 : x ≤ 66100000000) (h0 : w.cell? ⟨g, 0, none⟩ = some (.int .u64 0)) (h1 : w.cell? ⟨g, 1, none⟩ = some (.int .i64 x)) :
    Calls Tryz.prog 115 #[.pointer (some ⟨g, 0, none⟩)] w fun e w' => e = .returned (.int .i64 (x - 62135596800)) ∧ w = w' := by
  go_enter Tryz.func115, Tryz.ntmps115
  go_wp2_with (go_at_call 119; refine (sec_any g x _ h0 h1).mono ?_; rintro e w' ⟨rfl, rfl⟩)
  go_ret
  exact ⟨ret_i64 (by omega), rfl⟩
theorem stripMono_any (g : Nat) (w : World) (h0 : w.cell? ⟨g, 0, none⟩ = some (.int .u64 0)) :
    Calls Tryz.prog 100 #[.pointer (some ⟨g, 0, none⟩)] w fun e w' => e = .returned (.tuple #[]) ∧ w = w' := by
  have hm := no_mono
  go_enter Tryz.func100, Tryz.ntmps100
  go_wp2
  go_end0
  exact ⟨rfl, rfl⟩
def utcCells : Array Value := #[.bool true, .string ⟨#[85, 84, 67]⟩, .slice none 0 0, .slice none 0 0, .string ⟨#[]⟩, .int .i64 0, .int .i64 0, .pointer none]
def IsUtc (w : World) (b : Nat) : Prop := w.heap[b]? = some (.cells utcCells 127)
theorem IsUtc.cell {w : World} {b : Nat} (h : IsUtc w b) (j : Nat) : w.cell? ⟨b, j, none⟩ = utcCells[j]? := by
  unfold IsUtc at h; simp [World.cell?, h]
theorem utc_any (w : World) :
    Calls Tryz.prog 46 #[] w fun e w' => e = .returned (.pointer (some ⟨w.heap.size, 0, none⟩)) ∧ w.alloc (.cells utcCells 127) = w' := by
  go_enter Tryz.func46, Tryz.ntmps46
  go_wp2
  go_ret
  exact ⟨rfl, rfl⟩
theorem get_nil (w : World) :
    Calls Tryz.prog 101 #[.pointer none] w fun e w' => e = .returned (.pointer (some ⟨w.heap.size, 0, none⟩)) ∧ w.alloc (.cells utcCells 127) = w' := by
  go_enter Tryz.func101, Tryz.ntmps101
  go_wp2_with (go_at_call 46; refine (utc_any _).mono ?_; rintro e w' ⟨rfl, rfl⟩)
  go_ret
  exact ⟨rfl, rfl⟩
theorem get_some (b : Nat) (w : World) :
    Calls Tryz.prog 101 #[.pointer (some ⟨b, 0, none⟩)] w fun e w' => e = .returned (.pointer (some ⟨b, 0, none⟩)) ∧ w = w' := by
  go_enter Tryz.func101, Tryz.ntmps101
  go_wp2
  go_ret
  exact ⟨rfl, rfl⟩
theorem unixTime_any (s : Int) (w : World) (h0 : 500000000 ≤ s) (h1 : s ≤ 4000000000) :
    Calls Tryz.prog 71 #[.int .i64 s, .int .i32 0] w fun e w' => e = .returned (.agg #[.int .u64 0, .int .i64 (s + 62135596800), .pointer none]) ∧ Below w.heap.size w w' := by
  go_enter Tryz.func71, Tryz.ntmps71
  go_wp2
  exact bodyPost_ret (v := .agg #[.int .u64 0, .int .i64 (s + 62135596800), .pointer none]) (by simp [results, Tryz.results71, go_sem]) rfl ⟨rfl, (Below.refl _ _).alloc (Nat.le_refl _) _⟩
theorem setLoc_any (g b : Nat) (x : Int) (w : World) (hg : w.heap[g]? = some (.cells #[.int .u64 0, .int .i64 x, .pointer none] 63)) (hb : w.cell? ⟨b, 0, none⟩ = some (.bool true)) :
    Calls Tryz.prog 72 #[.pointer (some ⟨g, 0, none⟩), .pointer (some ⟨b, 0, none⟩)] w fun e w' => e = .returned (.tuple #[]) ∧ w.setCell ⟨g, 2, none⟩ (.pointer none) = w' := by
  have h0 : w.cell? ⟨g, 0, none⟩ = some (.int .u64 0) := by simp [World.cell?, hg]
  have h2 : w.cell? ⟨g, 2, none⟩ = some (.pointer none) := by simp [World.cell?, hg]
  have f2 : w.frozen? ⟨g, 2, none⟩ = false := by simp [World.frozen?, hg]
  clear hg
  go_enter Tryz.func72, Tryz.ntmps72
  go_wp2_with (go_at_call 100; refine (stripMono_any g _ h0).mono ?_; rintro e w' ⟨rfl, rfl⟩)
  go_end0
  exact ⟨rfl, rfl⟩
set_option maxRecDepth 100000 in
theorem lookup_any (b : Nat) (s : Int) (w : World) (hb : w.cell? ⟨b, 2, none⟩ = some (.slice none 0 0)) :
    Calls Tryz.prog 70 #[.pointer (some ⟨b, 0, none⟩), .int .i64 s] w fun e w' => e = .returned (.tuple #[.string ⟨#[85, 84, 67]⟩, .int .i64 0, .int .i64 (-9223372036854775808), .int .i64 9223372036854775807, .bool false]) ∧ w = w' := by
  go_enter Tryz.func70, Tryz.ntmps70
  go_wp2_with (go_at_call 101; refine (get_some b _).mono ?_; rintro e w' ⟨rfl, rfl⟩)
  refine bodyPost_ret (v := .tuple #[.string ⟨#[85, 84, 67]⟩, .int .i64 0, .int .i64 (-9223372036854775808), .int .i64 9223372036854775807, .bool false]) (by simp [results, Tryz.results70, go_sem]) rfl ⟨rfl, rfl⟩
theorem alloc_new (w : World) (o : Obj) : (w.alloc o).heap[w.heap.size]? = some o := heap_alloc_new w o
theorem isUtc_new (w : World) (n : Nat) (h : n = w.heap.size) : IsUtc (w.alloc (.cells utcCells 127)) n := by subst h; exact alloc_new _ _
theorem utc0 : utcCells[0]? = some (.bool true) := rfl
set_option maxRecDepth 100000 in
theorem absSec_any (x : Int) (w : World) (hx0 : 62700000000 ≤ x) (hx1 : x ≤ 66100000000) :
    Calls Tryz.prog 89 #[.agg #[.int .u64 0, .int .i64 x, .pointer none]] w fun e w' => e = .returned (.int .u64 (x + 9223371966606163200)) ∧ Below w.heap.size w w' := by
  have hu := utc0
  go_enter Tryz.func89, Tryz.ntmps89
  go_wp2_with (first | (go_at_call 101; refine (get_nil _).mono ?_; rintro e w' ⟨rfl, rfl⟩) | (go_at_call 115; refine (unixSec_any _ x _ hx0 hx1 (by go_simp) (by go_simp)).mono ?_; rintro e w' ⟨rfl, rfl⟩))
  go_ret
  exact ⟨ret_u64 (by first | omega | (simp; omega)), (((Below.refl _ _).alloc (Nat.le_refl _) _).alloc (by simp) _)⟩
theorem location_any (x : Int) (w : World) :
    Calls Tryz.prog 59 #[.agg #[.int .u64 0, .int .i64 x, .pointer none]] w fun e w' => ∃ b, e = .returned (.pointer (some ⟨b, 0, none⟩)) ∧ w.heap.size ≤ b ∧ IsUtc w' b ∧ Below w.heap.size w w' := by
  go_enter Tryz.func59, Tryz.ntmps59
  go_wp2_with (go_at_call 46; refine (utc_any _).mono ?_; rintro e w' ⟨rfl, rfl⟩)
  go_ret
  exact ⟨_, rfl, by simp, isUtc_new _ _ (by simp), (((Below.refl _ _).alloc (Nat.le_refl _) _).alloc (by simp) _)⟩
end Go.Proofs.YtkhgeonlohafgaaGreatDoor.Core
namespace Go.Proofs.YtkhgeonlohafgaaGreatDoor.Core
open Go.RowKit Go.Proofs.YtkhgeonlohafgaaGreatDoorW.PrintWords
def cumI (y mo : Int) : Int := rd [0, 0, 31, 59, 90, 120, 151, 181, 212, 243, 273, 304, 334] mo + (if leapI y = true ∧ 2 < mo then 1 else 0)
def dayN (y mo d : Int) : Int := (y - 1) * 365 + (y - 1) / 4 - (y - 1) / 100 + (y - 1) / 400 + d + cumI y mo
def wdI (y mo d : Int) : Int := dayN y mo d % 7
theorem absD_table : ∀ i : Fin 104, ∀ m : Fin 12, absD (1989 + (i.val : Int)) (m.val + 1) 1 = dayN (1989 + (i.val : Int)) (m.val + 1) 1 + 106751990354237 := by decide +kernel
theorem absD_dayN (y mo d : Int) (y0 : 1989 ≤ y) (y1 : y ≤ 2092) (m0 : 1 ≤ mo) (m1 : mo ≤ 12) : absD y mo d = dayN y mo d + 106751990354237 := by
  have h := absD_table ⟨(y - 1989).toNat, by omega⟩ ⟨(mo - 1).toNat, by omega⟩
  simp only at h
  rw [show (1989 : Int) + ((y - 1989).toNat : Int) = y by omega, show (((mo - 1).toNat : Int) + 1) = mo by omega] at h
  have e1 : absD y mo d = absD y mo 1 + (d - 1) := by unfold absD aydI; omega
  have e2 : dayN y mo d = dayN y mo 1 + (d - 1) := by unfold dayN; omega
  rw [e1, e2, h]
  omega
theorem cumI_range (y mo : Int) (m0 : 1 ≤ mo) (m1 : mo ≤ 12) : 0 ≤ cumI y mo ∧ cumI y mo + daysI y mo ≤ 366 := by
  rcases months m0 m1 with h | h | h | h | h | h | h | h | h | h | h | h <;> subst h <;> cases hl : leapI y <;> simp [cumI, daysI, hl, rd]
theorem absD_range {y mo d : Int} (h : DateOk y mo d) : 106751991080340 ≤ absD y mo d ∧ absD y mo d ≤ 106751991118400 := by
  have e := absD_dayN y mo d h.y0 h.y1 h.m0 h.m1
  obtain ⟨c0, c1⟩ := cumI_range y mo h.m0 h.m1
  have := h.y0
  have := h.y1
  have := h.d0
  have := h.d1
  unfold dayN at e
  omega
theorem weekday_date {y mo d : Int} (h : DateOk y mo d) : gotime_absDays_weekday.f (absD y mo d) = some (wdI y mo d) := by
  have hr := absD_range h
  have e := absD_dayN y mo d h.y0 h.y1 h.m0 h.m1
  unfold gotime_absDays_weekday.f wdI
  rw [u64_id (by omega) (by omega), Int.tmod_eq_emod_of_nonneg (by omega), wrap64_id (by omega) (by omega), e]
  congr 1
  omega
def extOf (y mo d h mi s : Int) : Int := absD y mo d * 86400 + (h * 3600 + mi * 60 + s) - 9223371966606163200
structure ClockOk (h mi s : Int) : Prop where
  h0 : 0 ≤ h
  h1 : h ≤ 23
  m0 : 0 ≤ mi
  m1 : mi ≤ 59
  s0 : 0 ≤ s
  s1 : s ≤ 59
theorem ext_range {y mo d h mi s : Int} (hd : DateOk y mo d) (hc : ClockOk h mi s) : 62700000000 ≤ extOf y mo d h mi s ∧ extOf y mo d h mi s ≤ 66100000000 := by
  have := absD_range hd
  obtain ⟨h0, h1, m0, m1, s0, s1⟩ := hc
  unfold extOf
  omega
theorem days_ext {y mo d h mi s : Int} (hd : DateOk y mo d) (hc : ClockOk h mi s) : gotime_absSeconds_days.f (extOf y mo d h mi s + 9223371966606163200) = some (absD y mo d) := by
  have := absD_range hd
  obtain ⟨h0, h1, m0, m1, s0, s1⟩ := hc
  unfold gotime_absSeconds_days.f extOf
  have e : absD y mo d * 86400 + (h * 3600 + mi * 60 + s) - 9223371966606163200 + 9223371966606163200 = absD y mo d * 86400 + (h * 3600 + mi * 60 + s) := by omega
  rw [e, Int.tdiv_eq_ediv_of_nonneg (by omega)]
  have e2 : (absD y mo d * 86400 + (h * 3600 + mi * 60 + s)) / 86400 = absD y mo d := by omega
  rw [e2, u64_id (by omega) (by omega)]
end Go.Proofs.YtkhgeonlohafgaaGreatDoor.Core
namespace Go.Proofs.YtkhgeonlohafgaaGreatDoor.Core
open Go.RowKit Go.Proofs.YtkhgeonlohafgaaGreatDoorW.PrintWords Go.Proofs.YtkhgeonlohafgaaGreatDoorW.PrintLast Go.Proofs.YtkhgeonlohafgaaGreatDoorW.PrintMore
attribute [local go_sem] max2_int min2_int max_two min_two max_three min_three max_four min_four   -- for this text's walks alone
set_option linter.unusedVariables false
set_option linter.unusedSimpArgs false
end Go.Proofs.YtkhgeonlohafgaaGreatDoor.Core
namespace Go.Proofs.YtkhgeonlohafgaaGreatDoor.Core
open Go.RowKit Go.Proofs.YtkhgeonlohafgaaGreatDoorW.PrintWords
section
variable (x D C cy a j y mo d : Int) (w : World) (hx0 : 62700000000 ≤ x) (hx1 : x ≤ 66100000000)
include hx0 hx1
theorem year_w (h1 : Aside0 (gotime_absSeconds_days.f (x + 9223371966606163200) = some D)) (h2 : Aside0 (gotime_absDays_split.f D = some (C, cy, a))) (h3 : Aside0 (gotime_absYday_janFeb.f a = some j)) (h4 : Aside0 (gotime_absCentury_year.f C cy j = some y)) :
    Calls Tryz.prog 61 #[.agg #[.int .u64 0, .int .i64 x, .pointer none]] w fun e w' => e = .returned (.int .i64 y) ∧ Below w.heap.size w w' := by
  go_enter Tryz.func61, Tryz.ntmps61
  go_wp2_with (first | (go_at_call 89; refine (absSec_any x _ hx0 hx1).mono ?_; rintro e w1 ⟨rfl, hb⟩) | (go_at_call 90; refine (gotime_absSeconds_days.calls _ D _ h1.out).mono ?_; rintro e w2 ⟨rfl, ⟨n2, rfl⟩⟩) | (go_at_call 91; refine (gotime_absDays_split.calls _ C cy a _ h2.out).mono ?_; rintro e w3 ⟨rfl, ⟨n3, rfl⟩⟩) | (go_at_call 92; refine (gotime_absYday_janFeb.calls _ j _ h3.out).mono ?_; rintro e w4 ⟨rfl, ⟨n4, rfl⟩⟩) | (go_at_call 93; refine (gotime_absCentury_year.calls _ _ _ y _ h4.out).mono ?_; rintro e w5 ⟨rfl, ⟨n5, rfl⟩⟩))
  go_ret
  exact ⟨rfl, by repeat (first | exact hb | exact below_then (below_alloc (Below.refl _ _) _) (by simp) hb | apply pw_below_drewN)⟩
theorem month_w (h1 : Aside0 (gotime_absSeconds_days.f (x + 9223371966606163200) = some D)) (h2 : Aside0 (gotime_absDays_split.f D = some (C, cy, a))) (h3 : Aside0 (gotime_absYday_split.f a = some (j, d))) (h5 : Aside0 (gotime_absYday_janFeb.f a = some y)) (h4 : Aside0 (gotime_absMonth_month.f j y = some mo)) :
    Calls Tryz.prog 62 #[.agg #[.int .u64 0, .int .i64 x, .pointer none]] w fun e w' => e = .returned (.int .i64 mo) ∧ Below w.heap.size w w' := by
  go_enter Tryz.func62, Tryz.ntmps62
  go_wp2_with (first | (go_at_call 89; refine (absSec_any x _ hx0 hx1).mono ?_; rintro e w1 ⟨rfl, hb⟩) | (go_at_call 90; refine (gotime_absSeconds_days.calls _ D _ h1.out).mono ?_; rintro e w2 ⟨rfl, ⟨n2, rfl⟩⟩) | (go_at_call 91; refine (gotime_absDays_split.calls _ C cy a _ h2.out).mono ?_; rintro e w3 ⟨rfl, ⟨n3, rfl⟩⟩) | (go_at_call 94; refine (gotime_absYday_split.calls _ j d _ h3.out).mono ?_; rintro e w4 ⟨rfl, ⟨n4, rfl⟩⟩) | (go_at_call 92; refine (gotime_absYday_janFeb.calls _ y _ h5.out).mono ?_; rintro e w5 ⟨rfl, ⟨n5, rfl⟩⟩) | (go_at_call 95; refine (gotime_absMonth_month.calls _ _ mo _ h4.out).mono ?_; rintro e w6 ⟨rfl, ⟨n6, rfl⟩⟩))
  go_ret
  exact ⟨rfl, by repeat (first | exact hb | exact below_then (below_alloc (Below.refl _ _) _) (by simp) hb | apply pw_below_drewN)⟩
theorem day_w (h1 : Aside0 (gotime_absSeconds_days.f (x + 9223371966606163200) = some D)) (h2 : Aside0 (gotime_absDays_split.f D = some (C, cy, a))) (h3 : Aside0 (gotime_absYday_split.f a = some (j, d))) :
    Calls Tryz.prog 65 #[.agg #[.int .u64 0, .int .i64 x, .pointer none]] w fun e w' => e = .returned (.int .i64 d) ∧ Below w.heap.size w w' := by
  go_enter Tryz.func65, Tryz.ntmps65
  go_wp2_with (first | (go_at_call 89; refine (absSec_any x _ hx0 hx1).mono ?_; rintro e w1 ⟨rfl, hb⟩) | (go_at_call 90; refine (gotime_absSeconds_days.calls _ D _ h1.out).mono ?_; rintro e w2 ⟨rfl, ⟨n2, rfl⟩⟩) | (go_at_call 91; refine (gotime_absDays_split.calls _ C cy a _ h2.out).mono ?_; rintro e w3 ⟨rfl, ⟨n3, rfl⟩⟩) | (go_at_call 94; refine (gotime_absYday_split.calls _ j d _ h3.out).mono ?_; rintro e w4 ⟨rfl, ⟨n4, rfl⟩⟩))
  go_ret
  exact ⟨rfl, by repeat (first | exact hb | exact below_then (below_alloc (Below.refl _ _) _) (by simp) hb | apply pw_below_drewN)⟩
theorem weekday_w (h1 : Aside0 (gotime_absSeconds_days.f (x + 9223371966606163200) = some D)) (h2 : Aside0 (gotime_absDays_weekday.f D = some d)) :
    Calls Tryz.prog 84 #[.agg #[.int .u64 0, .int .i64 x, .pointer none]] w fun e w' => e = .returned (.int .i64 d) ∧ Below w.heap.size w w' := by
  go_enter Tryz.func84, Tryz.ntmps84
  go_wp2_with (first | (go_at_call 89; refine (absSec_any x _ hx0 hx1).mono ?_; rintro e w1 ⟨rfl, hb⟩) | (go_at_call 90; refine (gotime_absSeconds_days.calls _ D _ h1.out).mono ?_; rintro e w2 ⟨rfl, ⟨n2, rfl⟩⟩) | (go_at_call 111; refine (gotime_absDays_weekday.calls _ d _ h2.out).mono ?_; rintro e w3 ⟨rfl, ⟨n3, rfl⟩⟩))
  go_ret
  exact ⟨rfl, by repeat (first | exact hb | exact below_then (below_alloc (Below.refl _ _) _) (by simp) hb | apply pw_below_drewN)⟩
theorem hour_w : Calls Tryz.prog 83 #[.agg #[.int .u64 0, .int .i64 x, .pointer none]] w fun e w' => e = .returned (.int .i64 ((x + 9223371966606163200) % 86400 / 3600)) ∧ Below w.heap.size w w' := by
  go_enter Tryz.func83, Tryz.ntmps83
  go_wp2_with (go_at_call 89; refine (absSec_any x _ hx0 hx1).mono ?_; rintro e w1 ⟨rfl, hb⟩)
  go_ret
  exact ⟨ret_i64 (by first | rfl | omega), by repeat (first | exact hb | exact below_then (below_alloc (Below.refl _ _) _) (by simp) hb | apply pw_below_drewN)⟩
theorem minute_w : Calls Tryz.prog 82 #[.agg #[.int .u64 0, .int .i64 x, .pointer none]] w fun e w' => e = .returned (.int .i64 ((x + 9223371966606163200) % 3600 / 60)) ∧ Below w.heap.size w w' := by
  go_enter Tryz.func82, Tryz.ntmps82
  go_wp2_with (go_at_call 89; refine (absSec_any x _ hx0 hx1).mono ?_; rintro e w1 ⟨rfl, hb⟩)
  go_ret
  exact ⟨ret_i64 (by first | rfl | omega), by repeat (first | exact hb | exact below_then (below_alloc (Below.refl _ _) _) (by simp) hb | apply pw_below_drewN)⟩
theorem second_w : Calls Tryz.prog 81 #[.agg #[.int .u64 0, .int .i64 x, .pointer none]] w fun e w' => e = .returned (.int .i64 ((x + 9223371966606163200) % 60)) ∧ Below w.heap.size w w' := by
  go_enter Tryz.func81, Tryz.ntmps81
  go_wp2_with (go_at_call 89; refine (absSec_any x _ hx0 hx1).mono ?_; rintro e w1 ⟨rfl, hb⟩)
  go_ret
  exact ⟨ret_i64 (by first | rfl | omega), by repeat (first | exact hb | exact below_then (below_alloc (Below.refl _ _) _) (by simp) hb | apply pw_below_drewN)⟩
end
theorem norm_in (hi lo base : Int) (w : World) (h0 : 0 ≤ lo) (h1 : lo < base) :
    Calls Tryz.prog 68 #[.int .i64 hi, .int .i64 lo, .int .i64 base] w fun e w' => e = .returned (.tuple #[.int .i64 hi, .int .i64 lo]) ∧ w = w' := by
  have e1 : decide (lo < 0) = false := decide_eq_false (by omega)
  have e2 : decide (base ≤ lo) = false := decide_eq_false (by omega)
  go_enter Tryz.func68, Tryz.ntmps68
  go_wp2
  go_ret2
  exact ⟨rfl, rfl⟩
end Go.Proofs.YtkhgeonlohafgaaGreatDoor.Core
namespace Go.Proofs.YtkhgeonlohafgaaGreatDoor.Core
open Go.RowKit Go.Proofs.YtkhgeonlohafgaaGreatDoorW.PrintWords
theorem dta (y mo d D a b c : Int) (w : World) (hD : Aside0 (gotime_dateToAbsDays.f y mo d = some D)) (ha : a = y) (hb : b = mo) (hc : c = d) :
    Calls Tryz.prog 69 #[.int .i64 a, .int .i64 b, .int .i64 c] w fun e w' => e = .returned (.int .u64 D) ∧ Drawn0 w w' := by
  subst ha; subst hb; subst hc
  exact gotime_dateToAbsDays.calls _ _ _ D _ hD.out
theorem setLoc_after (g b : Nat) (x : Int) (w : World) (hg : w.heap[g]? = some (.cells #[.int .u64 0, .int .i64 x, .pointer none] 63)) (hb : w.cell? ⟨b, 0, none⟩ = some (.bool true)) :
    Calls Tryz.prog 72 #[.pointer (some ⟨g, 0, none⟩), .pointer (some ⟨b, 0, none⟩)] w fun e w' => e = .returned (.tuple #[]) ∧ w.setCell ⟨g, 2, none⟩ (.pointer none) = w' := setLoc_any g b x w hg hb
theorem ret_time {a b : Int} (h : a = b) : Ending.returned (.agg #[.int .u64 0, .int .i64 a, .pointer none]) = .returned (.agg #[.int .u64 0, .int .i64 b, .pointer none]) := by rw [h]
theorem cell_after {w w1 : World} {a : Addr} {v : Value} (h : Below w.heap.size w w1) (hc : w.cell? a = some v) : w1.cell? a = some v := pw_cell_below h hc
theorem after_tm {w w4 : World} {n : Nat} (h : Below ((w.alloc (.cells #[.int .u64 0, .int .i64 0, .pointer none] 63)).drewN n).heap.size ((w.alloc (.cells #[.int .u64 0, .int .i64 0, .pointer none] 63)).drewN n) w4) :
    w4.heap[w.heap.size]? = some (.cells #[.int .u64 0, .int .i64 0, .pointer none] 63) ∧ w.heap.size < w4.heap.size ∧ Below w.heap.size w w4 := by
  have hs : w.heap.size < ((w.alloc (.cells #[.int .u64 0, .int .i64 0, .pointer none] 63)).drewN n).heap.size := by
    show w.heap.size < (w.alloc _).heap.size; simp
  have hb : Below w.heap.size w ((w.alloc (.cells #[.int .u64 0, .int .i64 0, .pointer none] 63)).drewN n) := below_drewN ((Below.refl _ _).alloc (Nat.le_refl _) _) n
  exact ⟨(h.block w.heap.size hs).trans (heap_alloc_new w _), Nat.lt_of_lt_of_le hs h.size, hb.trans (h.mono (Nat.le_of_lt hs))⟩
theorem set_same {w : World} {a : Addr} {u v : Value} (h : w.cell? a = some u) : (w.setCell a v).cell? a = some v := World.cell?_setCell_same _ _ _ h
theorem set_other {w : World} {a b : Addr} {v : Value} (h : a ≠ b) : (w.setCell a v).cell? b = w.cell? b := World.cell?_setCell_other _ _ _ _ h
theorem res3 {w4 : World} {g : Nat} {x0 x1 x2 a b c : Value} {t : TypeId} (o : Obj) (hA : w4.heap[g]? = some (.cells #[x0, x1, x2] t)) :
    ((((w4.setCell ⟨g, 0, none⟩ a).setCell ⟨g, 1, none⟩ b).setCell ⟨g, 2, none⟩ c).alloc o).cell? ⟨g, 0, none⟩ = some a ∧
    ((((w4.setCell ⟨g, 0, none⟩ a).setCell ⟨g, 1, none⟩ b).setCell ⟨g, 2, none⟩ c).alloc o).cell? ⟨g, 1, none⟩ = some b ∧
    ((((w4.setCell ⟨g, 0, none⟩ a).setCell ⟨g, 1, none⟩ b).setCell ⟨g, 2, none⟩ c).alloc o).cell? ⟨g, 2, none⟩ = some c := by
  have h0 : w4.cell? ⟨g, 0, none⟩ = some x0 := by simp [World.cell?, hA]
  have h1 : w4.cell? ⟨g, 1, none⟩ = some x1 := by simp [World.cell?, hA]
  have h2 : w4.cell? ⟨g, 2, none⟩ = some x2 := by simp [World.cell?, hA]
  have k0 : (w4.setCell ⟨g, 0, none⟩ a).cell? ⟨g, 0, none⟩ = some a := set_same h0
  have k1 : ((w4.setCell ⟨g, 0, none⟩ a).setCell ⟨g, 1, none⟩ b).cell? ⟨g, 0, none⟩ = some a := (set_other (by simp)).trans k0
  have k2 : ((w4.setCell ⟨g, 0, none⟩ a).setCell ⟨g, 1, none⟩ b).cell? ⟨g, 1, none⟩ = some b := set_same ((set_other (by simp)).trans h1)
  have j0 := (set_other (v := c) (b := ⟨g, 0, none⟩) (a := ⟨g, 2, none⟩) (by simp)).trans k1
  have j1 := (set_other (v := c) (b := ⟨g, 1, none⟩) (a := ⟨g, 2, none⟩) (by simp)).trans k2
  have j2 : (((w4.setCell ⟨g, 0, none⟩ a).setCell ⟨g, 1, none⟩ b).setCell ⟨g, 2, none⟩ c).cell? ⟨g, 2, none⟩ = some c := set_same ((set_other (by simp)).trans ((set_other (by simp)).trans h2))
  exact ⟨cell_after ((Below.refl _ _).alloc (Nat.le_refl _) o) j0, cell_after ((Below.refl _ _).alloc (Nat.le_refl _) o) j1, cell_after ((Below.refl _ _).alloc (Nat.le_refl _) o) j2⟩
set_option maxRecDepth 100000 in
theorem date_w (y mo d h mi s D : Int) (b : Nat) (w : World) (hm0 : 1 ≤ mo) (hm1 : mo ≤ 12) (hh0 : 0 ≤ h) (hh1 : h ≤ 23) (hi0 : 0 ≤ mi) (hi1 : mi ≤ 59) (hs0 : 0 ≤ s) (hs1 : s ≤ 59)
    (hD : Aside0 (gotime_dateToAbsDays.f y mo d = some D)) (hD0 : 106751991080340 ≤ D) (hD1 : D ≤ 106751991118400) (hb0 : w.cell? ⟨b, 0, none⟩ = some (.bool true)) (hb2 : w.cell? ⟨b, 2, none⟩ = some (.slice none 0 0)) :
    Calls Tryz.prog 45 #[.int .i64 y, .int .i64 mo, .int .i64 d, .int .i64 h, .int .i64 mi, .int .i64 s, .int .i64 0, .pointer (some ⟨b, 0, none⟩)] w
      fun e w' => e = .returned (.agg #[.int .u64 0, .int .i64 (D * 86400 + (h * 3600 + mi * 60 + s) + -9223371966606163200), .pointer none]) ∧ Below w.heap.size w w' := by
  have hk : ∀ o n, ((w.alloc o).drewN n).cell? ⟨b, 2, none⟩ = some (.slice none 0 0) := fun o n => cell_after (below_drewN ((Below.refl _ _).alloc (Nat.le_refl _) o) n) hb2
  have hbB := World.block_lt_of_cell? w ⟨b, 0, none⟩ hb0
  go_enter Tryz.func45, Tryz.ntmps45
  go_wp2_with (first | (go_at_call 68; refine (norm_in _ _ _ _ (by omega) (by omega)).mono ?_; rintro e w' ⟨rfl, rfl⟩) | (go_at_call 69; refine (dta y mo d D _ _ _ _ hD (by omega) (by omega) (by omega)).mono ?_; rintro e w2 ⟨rfl, ⟨n2, rfl⟩⟩) | (go_at_call 70; refine (lookup_any b _ _ (hk _ _)).mono ?_; rintro e w3 ⟨rfl, rfl⟩) | (go_at_call 71; refine (unixTime_any _ _ (by omega) (by omega)).mono ?_; rintro e w4 ⟨rfl, hbl⟩; obtain ⟨hA, hsz, hbw⟩ := after_tm hbl; have hc0 := cell_after hbw hb0; have hcA0 : w4.cell? ⟨w.heap.size, 0, none⟩ = some (.int .u64 0) := (by simp [World.cell?, hA]); have hcA1 : w4.cell? ⟨w.heap.size, 1, none⟩ = some (.int .i64 0) := (by simp [World.cell?, hA]); have hcA2 : w4.cell? ⟨w.heap.size, 2, none⟩ = some (.pointer none) := (by simp [World.cell?, hA]); have hfA0 : w4.frozen? ⟨w.heap.size, 0, none⟩ = false := (by simp [World.frozen?, hA]); have hfA1 : w4.frozen? ⟨w.heap.size, 1, none⟩ = false := (by simp [World.frozen?, hA]); have hfA2 : w4.frozen? ⟨w.heap.size, 2, none⟩ = false := (by simp [World.frozen?, hA]); have hne : w.heap.size ≠ w4.heap.size := Nat.ne_of_lt hsz; have hne' : w4.heap.size ≠ w.heap.size := Nat.ne_of_gt hsz) | (go_at_call 72; refine (setLoc_after _ b _ _ (heap_alloc_new _ _) (cell_after ((Below.refl _ _).alloc (Nat.le_refl _) _) hc0)).mono ?_; rintro e w5 ⟨rfl, rfl⟩))
  obtain ⟨r0, r1, r2⟩ := res3 (a := .int .u64 0) (b := .int .i64 (D * 86400 + (h * 3600 + mi * 60 + s) + -9223372028741760000 + 62135596800)) (c := .pointer none) (.cells #[.int .u64 0, .int .i64 (D * 86400 + (h * 3600 + mi * 60 + s) + -9223372028741760000 + 62135596800), .pointer none] 63) hA
  refine bodyPost_ret (v := .agg #[.int .u64 0, .int .i64 (D * 86400 + (h * 3600 + mi * 60 + s) + -9223372028741760000 + 62135596800), .pointer none]) (by simp [results, Tryz.results45, go_sem, r0, r1, r2]) rfl ⟨ret_time (by omega), ?_⟩
  exact ((((hbw.setCell (Nat.le_refl _) _).setCell (Nat.le_refl _) _).setCell (Nat.le_refl _) _)).alloc (by simpa using Nat.le_of_lt hsz) _
end Go.Proofs.YtkhgeonlohafgaaGreatDoor.Core
namespace Go.Proofs.YtkhgeonlohafgaaGreatDoor.Core
open Go.RowKit Go.Proofs.YtkhgeonlohafgaaGreatDoorW.PrintWords Go.Proofs.YtkhgeonlohafgaaGreatDoorW.PrintLast Go.Proofs.YtkhgeonlohafgaaGreatDoorW.PrintMore
attribute [local go_sem] max2_int min2_int max_two min_two max_three min_three max_four min_four   -- for this text's walks alone
set_option linter.unusedVariables false
set_option linter.unusedSimpArgs false
def spec_Leap.f (a0 : Int) : Option (Bool) := if (Int.tmod a0 4) = 0 then (if (Int.tmod a0 100) = 0 then (some ((Int.tmod a0 400) == 0)) else (some true)) else (some false)
set_option maxHeartbeats 8000000 in
set_option maxRecDepth 100000 in
theorem spec_Leap.calls (a0 : Int) (r : Bool) (w : World) (h : spec_Leap.f a0 = some r) :
    Calls Tryz.prog 42 #[.int .i64 a0] w fun e w' => e = .returned (.bool r) ∧ Drawn0 w w' := by
  have H : (if (Int.tmod a0 4) = 0 then (if (Int.tmod a0 100) = 0 then (some ((Int.tmod a0 400) == 0)) else (some true)) else (some false)) = some r := h
  clear h
  by_cases c2 : (Int.tmod a0 4) = 0
  · rw [if_pos c2] at H
    have c2b0 : ((Int.tmod a0 4) == 0) = true := beq_iff_eq.mpr c2
    have c2b1 : ((Int.tmod a0 4) != 0) = false := bne_eq_false_iff_eq.mpr c2
    clear c2
    by_cases c3 : (Int.tmod a0 100) = 0
    · rw [if_pos c3] at H
      have c3b0 : ((Int.tmod a0 100) == 0) = true := beq_iff_eq.mpr c3
      have c3b1 : ((Int.tmod a0 100) != 0) = false := bne_eq_false_iff_eq.mpr c3
      clear c3
      obtain rfl := Option.some.inj H
      go_enter Tryz.func42, Tryz.ntmps42
      go_wp2
      go_ret
      exact ⟨by first | rfl | (simp; done) | (simp [*]; done), by repeat (first | exact Drawn0.refl _ | apply Drawn0.step)⟩
    · rw [if_neg c3] at H
      have c3b0 : ((Int.tmod a0 100) == 0) = false := beq_eq_false_iff_ne.mpr c3
      have c3b1 : ((Int.tmod a0 100) != 0) = true := bne_iff_ne.mpr c3
      obtain rfl := Option.some.inj H
      go_enter Tryz.func42, Tryz.ntmps42
      go_wp2
      go_ret
      exact ⟨by first | rfl | (simp; done) | (simp [*]; done), by repeat (first | exact Drawn0.refl _ | apply Drawn0.step)⟩
  · rw [if_neg c2] at H
    have c2b0 : ((Int.tmod a0 4) == 0) = false := beq_eq_false_iff_ne.mpr c2
    have c2b1 : ((Int.tmod a0 4) != 0) = true := bne_iff_ne.mpr c2
    obtain rfl := Option.some.inj H
    go_enter Tryz.func42, Tryz.ntmps42
    go_wp2
    go_ret
    exact ⟨by first | rfl | (simp; done) | (simp [*]; done), by repeat (first | exact Drawn0.refl _ | apply Drawn0.step)⟩
end Go.Proofs.YtkhgeonlohafgaaGreatDoor.Core
namespace Go.Proofs.YtkhgeonlohafgaaGreatDoor.Core
open Go.RowKit Go.Proofs.YtkhgeonlohafgaaGreatDoorW.PrintWords Go.Proofs.YtkhgeonlohafgaaGreatDoorW.PrintLast Go.Proofs.YtkhgeonlohafgaaGreatDoorW.PrintMore
attribute [local go_sem] max2_int min2_int max_two min_two max_three min_three max_four min_four   -- for this text's walks alone
set_option linter.unusedVariables false
set_option linter.unusedSimpArgs false
def spec_Days.f (a0 : Int) (a1 : Int) : Option (Int) := if a1 = 2 then ((spec_Leap.f a0).bind fun t283 => (if t283 = true then (some 29) else (if 0 ≤ a1 then (if a1 < 13 then (some (rd [0, 31, 28, 31, 30, 31, 30, 31, 31, 30, 31, 30, 31] a1)) else (none)) else (none)))) else (if 0 ≤ a1 then (if a1 < 13 then (some (rd [0, 31, 28, 31, 30, 31, 30, 31, 31, 30, 31, 30, 31] a1)) else (none)) else (none))
set_option maxHeartbeats 8000000 in
set_option maxRecDepth 100000 in
theorem spec_Days.calls (a0 : Int) (a1 : Int) (r : Int) (w : World) (h : spec_Days.f a0 a1 = some r) :
    Calls Tryz.prog 29 #[.int .i64 a0, .int .i64 a1] w fun e w' => e = .returned (.int .i64 r) ∧ Drawn0 w w' := by
  have hu82 := Tryz.underlying82
  have H : (if a1 = 2 then ((spec_Leap.f a0).bind fun t283 => (if t283 = true then (some 29) else (if 0 ≤ a1 then (if a1 < 13 then (some (rd [0, 31, 28, 31, 30, 31, 30, 31, 31, 30, 31, 30, 31] a1)) else (none)) else (none)))) else (if 0 ≤ a1 then (if a1 < 13 then (some (rd [0, 31, 28, 31, 30, 31, 30, 31, 31, 30, 31, 30, 31] a1)) else (none)) else (none))) = some r := h
  clear h
  by_cases c3 : a1 = 2
  · rw [if_pos c3] at H
    have c3b0 : (a1 == 2) = true := beq_iff_eq.mpr c3
    have c3b1 : (a1 != 2) = false := bne_eq_false_iff_eq.mpr c3
    clear c3
    replace H := Option.bind_eq_some_iff.mp H
    obtain ⟨t283, A40, H⟩ := H
    replace H : (if t283 = true then (some 29) else (if 0 ≤ a1 then (if a1 < 13 then (some (rd [0, 31, 28, 31, 30, 31, 30, 31, 31, 30, 31, 30, 31] a1)) else (none)) else (none))) = some r := H
    have A4 := Aside0.mk A40
    clear A40
    by_cases c5 : t283 = true
    · subst c5
      have H1 : (some 29) = some r := by rw [if_pos rfl] at H; exact H
      clear H
      have H := H1
      clear H1
      obtain rfl := Option.some.inj H
      go_enter Tryz.func29, Tryz.ntmps29
      go_wp2_with (first | (go_at_call 42; (with_reducible refine (spec_Leap.calls a0 true _ A4.out).mono ?_); rintro e w' ⟨rfl, ⟨nd, rfl⟩⟩))
      go_ret
      exact ⟨by first | rfl | (simp; done) | (simp [*]; done), by repeat (first | exact Drawn0.refl _ | apply Drawn0.step)⟩
    · replace c5 := Bool.eq_false_iff.mpr c5
      subst c5
      have H1 : (if 0 ≤ a1 then (if a1 < 13 then (some (rd [0, 31, 28, 31, 30, 31, 30, 31, 31, 30, 31, 30, 31] a1)) else (none)) else (none)) = some r := by rw [if_neg (show ¬ (false = true) by decide)] at H; exact H
      clear H
      have H := H1
      clear H1
      by_cases c6 : 0 ≤ a1
      · rw [if_pos c6] at H
        have c6b0 : decide (0 ≤ a1) = true := decide_eq_true c6
        clear c6
        by_cases c7 : a1 < 13
        · rw [if_pos c7] at H
          have c7b0 : decide (a1 < 13) = true := decide_eq_true c7
          clear c7
          have hixz284_ := fun w_ : World => (index_T82 0 31 28 31 30 31 30 31 31 30 31 30 31 a1 (of_decide_eq_true (by first | (with_reducible assumption) | assumption)) (of_decide_eq_true (by first | (with_reducible assumption) | assumption)) w_ : (Instr.index 82 (.agg #[.int .i64 0, .int .i64 31, .int .i64 28, .int .i64 31, .int .i64 30, .int .i64 31, .int .i64 30, .int .i64 31, .int .i64 31, .int .i64 30, .int .i64 31, .int .i64 30, .int .i64 31]) (.int .i64 a1)).run Tryz.prog w_ = .ok (.int .i64 (rd [0, 31, 28, 31, 30, 31, 30, 31, 31, 30, 31, 30, 31] a1)) w_)
          obtain rfl := Option.some.inj H
          go_enter Tryz.func29, Tryz.ntmps29
          go_wp2_with (first | (go_at_call 42; (with_reducible refine (spec_Leap.calls a0 false _ A4.out).mono ?_); rintro e w' ⟨rfl, ⟨nd, rfl⟩⟩))
          go_ret
          exact ⟨by first | rfl | (simp; done) | (simp [*]; done), by repeat (first | exact Drawn0.refl _ | apply Drawn0.step)⟩
        · rw [if_neg c7] at H
          exact absurd H (by simp)
      · rw [if_neg c6] at H
        exact absurd H (by simp)
  · rw [if_neg c3] at H
    have c3b0 : (a1 == 2) = false := beq_eq_false_iff_ne.mpr c3
    have c3b1 : (a1 != 2) = true := bne_iff_ne.mpr c3
    by_cases c8 : 0 ≤ a1
    · rw [if_pos c8] at H
      have c8b0 : decide (0 ≤ a1) = true := decide_eq_true c8
      clear c8
      by_cases c9 : a1 < 13
      · rw [if_pos c9] at H
        have c9b0 : decide (a1 < 13) = true := decide_eq_true c9
        clear c9
        have hixz285_ := fun w_ : World => (index_T82 0 31 28 31 30 31 30 31 31 30 31 30 31 a1 (of_decide_eq_true (by first | (with_reducible assumption) | assumption)) (of_decide_eq_true (by first | (with_reducible assumption) | assumption)) w_ : (Instr.index 82 (.agg #[.int .i64 0, .int .i64 31, .int .i64 28, .int .i64 31, .int .i64 30, .int .i64 31, .int .i64 30, .int .i64 31, .int .i64 31, .int .i64 30, .int .i64 31, .int .i64 30, .int .i64 31]) (.int .i64 a1)).run Tryz.prog w_ = .ok (.int .i64 (rd [0, 31, 28, 31, 30, 31, 30, 31, 31, 30, 31, 30, 31] a1)) w_)
        obtain rfl := Option.some.inj H
        go_enter Tryz.func29, Tryz.ntmps29
        go_wp2
        go_ret
        exact ⟨by first | rfl | (simp; done) | (simp [*]; done), by repeat (first | exact Drawn0.refl _ | apply Drawn0.step)⟩
      · rw [if_neg c9] at H
        exact absurd H (by simp)
    · rw [if_neg c8] at H
      exact absurd H (by simp)
end Go.Proofs.YtkhgeonlohafgaaGreatDoor.Core
namespace Go.Proofs.YtkhgeonlohafgaaGreatDoor.Core
open Go.RowKit Go.Proofs.YtkhgeonlohafgaaGreatDoorW.PrintWords
theorem tmodz (y n : Int) (h : 0 ≤ y) : Int.tmod y n = y % n := Int.tmod_eq_emod_of_nonneg h
theorem leap_some (y : Int) (h : 0 ≤ y) : spec_Leap.f y = some (leapI y) := by
  unfold spec_Leap.f leapI
  rw [tmodz y 4 h, tmodz y 100 h, tmodz y 400 h]
  by_cases h4 : y % 4 = 0
  · rw [if_pos h4]
    by_cases h1 : y % 100 = 0
    · rw [if_pos h1]; simp [h4, h1]; rfl
    · rw [if_neg h1]; simp [h4, h1]
  · rw [if_neg h4]; simp [h4]
theorem days_some (y mo : Int) (h : 0 ≤ y) (m0 : 1 ≤ mo) (m1 : mo ≤ 12) : spec_Days.f y mo = some (daysI y mo) := by
  unfold spec_Days.f daysI
  by_cases h2 : mo = 2
  · rw [if_pos h2, leap_some y h, Option.bind_some]
    cases hl : leapI y with
    | true => rw [if_pos rfl, if_pos ⟨h2, rfl⟩]
    | false => rw [if_neg (by simp), if_pos (by omega), if_pos (by omega), if_neg (by simp)]
  · rw [if_neg h2, if_pos (by omega), if_pos (by omega), if_neg (fun e => h2 e.1)]
theorem days_quiet (y mo : Int) (hd : spec_Days.f y mo = some (daysI y mo)) (w : World) (n : Nat) : Calls Tryz.prog 29 #[.int .i64 y, .int .i64 mo] (w.drewN n) fun e w'' => e = .returned (.int .i64 (daysI y mo)) ∧ ∃ m, w'' = w.drewN m := by
  refine Calls.quiet_of ((spec_Days.calls y mo (daysI y mo) _ hd).mono ?_)
  rintro e w' ⟨rfl, ⟨nd, rfl⟩⟩
  exact ⟨rfl, nd, rfl⟩
def goodM (y mo d h mi s : Int) : Bool := decide (1990 ≤ y ∧ y ≤ 2090 ∧ 1 ≤ mo ∧ mo ≤ 12 ∧ 1 ≤ d ∧ d ≤ daysI y mo ∧ 0 ≤ h ∧ h ≤ 23 ∧ 0 ≤ mi ∧ mi ≤ 59 ∧ 0 ≤ s ∧ s ≤ 59)
set_option maxRecDepth 100000 in
set_option maxHeartbeats 2000000 in
theorem mg_0 (y mo d h mi s : Int) (a0 : ¬ 1990 ≤ y) : GoodC y mo d h mi s false := by
  intro w
  replace a0 : (1990 ≤ y) = False := eq_false a0
  go_enter Tryz.func12, Tryz.ntmps12
  go_wp2
  go_quiet (fail)
  go_wp2
  go_ret
  exact ⟨rfl, by repeat (first | exact Below.refl _ _ | apply below_alloc | apply below_drew1 | apply pw_below_drewN)⟩
set_option maxRecDepth 100000 in
set_option maxHeartbeats 2000000 in
theorem mg_1 (y mo d h mi s : Int) (a0 : 1990 ≤ y) (a1 : ¬ y ≤ 2090) : GoodC y mo d h mi s false := by
  intro w
  replace a1 : (y ≤ 2090) = False := eq_false a1
  go_enter Tryz.func12, Tryz.ntmps12
  go_wp2
  go_quiet (fail)
  go_wp2
  go_ret
  exact ⟨rfl, by repeat (first | exact Below.refl _ _ | apply below_alloc | apply below_drew1 | apply pw_below_drewN)⟩
set_option maxRecDepth 100000 in
set_option maxHeartbeats 2000000 in
theorem mg_2 (y mo d h mi s : Int) (a0 : 1990 ≤ y) (a1 : y ≤ 2090) (a2 : ¬ 1 ≤ mo) : GoodC y mo d h mi s false := by
  intro w
  replace a2 : (1 ≤ mo) = False := eq_false a2
  go_enter Tryz.func12, Tryz.ntmps12
  go_wp2
  go_quiet (fail)
  go_wp2
  go_ret
  exact ⟨rfl, by repeat (first | exact Below.refl _ _ | apply below_alloc | apply below_drew1 | apply pw_below_drewN)⟩
set_option maxRecDepth 100000 in
set_option maxHeartbeats 2000000 in
theorem mg_3 (y mo d h mi s : Int) (a0 : 1990 ≤ y) (a1 : y ≤ 2090) (a2 : 1 ≤ mo) (a3 : ¬ mo ≤ 12) : GoodC y mo d h mi s false := by
  intro w
  replace a3 : (mo ≤ 12) = False := eq_false a3
  go_enter Tryz.func12, Tryz.ntmps12
  go_wp2
  go_quiet (fail)
  go_wp2
  go_ret
  exact ⟨rfl, by repeat (first | exact Below.refl _ _ | apply below_alloc | apply below_drew1 | apply pw_below_drewN)⟩
set_option maxRecDepth 100000 in
set_option maxHeartbeats 2000000 in
theorem mg_4 (y mo d h mi s : Int) (a0 : 1990 ≤ y) (a1 : y ≤ 2090) (a2 : 1 ≤ mo) (a3 : mo ≤ 12) (a4 : ¬ 1 ≤ d) : GoodC y mo d h mi s false := by
  intro w
  replace a4 : (1 ≤ d) = False := eq_false a4
  go_enter Tryz.func12, Tryz.ntmps12
  go_wp2
  go_quiet (fail)
  go_wp2
  go_ret
  exact ⟨rfl, by repeat (first | exact Below.refl _ _ | apply below_alloc | apply below_drew1 | apply pw_below_drewN)⟩
end Go.Proofs.YtkhgeonlohafgaaGreatDoor.Core
namespace Go.Proofs.YtkhgeonlohafgaaGreatDoor.Core
open Go.RowKit Go.Proofs.YtkhgeonlohafgaaGreatDoorW.PrintWords Go.Proofs.YtkhgeonlohafgaaGreatDoorW.PrintLast Go.Proofs.YtkhgeonlohafgaaGreatDoorW.PrintMore
attribute [local go_sem] max2_int min2_int max_two min_two max_three min_three max_four min_four   -- for this text's walks alone
set_option linter.unusedVariables false
set_option linter.unusedSimpArgs false
end Go.Proofs.YtkhgeonlohafgaaGreatDoor.Core
namespace Go.Proofs.YtkhgeonlohafgaaGreatDoor.Core
open Go.RowKit Go.Proofs.YtkhgeonlohafgaaGreatDoorW.PrintWords Go.Proofs.YtkhgeonlohafgaaGreatDoorW.PrintLast Go.Proofs.YtkhgeonlohafgaaGreatDoorW.PrintMore
attribute [local go_sem] max2_int min2_int max_two min_two max_three min_three max_four min_four   -- for this text's walks alone
set_option linter.unusedVariables false
set_option linter.unusedSimpArgs false
end Go.Proofs.YtkhgeonlohafgaaGreatDoor.Core
namespace Go.Proofs.YtkhgeonlohafgaaGreatDoor.Core
open Go.RowKit Go.Proofs.YtkhgeonlohafgaaGreatDoorW.PrintWords Go.Proofs.YtkhgeonlohafgaaGreatDoorW.PrintLast Go.Proofs.YtkhgeonlohafgaaGreatDoorW.PrintMore
attribute [local go_sem] max2_int min2_int max_two min_two max_three min_three max_four min_four   -- for this text's walks alone
set_option linter.unusedVariables false
set_option linter.unusedSimpArgs false
end Go.Proofs.YtkhgeonlohafgaaGreatDoor.Core
namespace Go.Proofs.YtkhgeonlohafgaaGreatDoor.Core
open Go.RowKit Go.Proofs.YtkhgeonlohafgaaGreatDoorW.PrintWords Go.Proofs.YtkhgeonlohafgaaGreatDoorW.PrintLast Go.Proofs.YtkhgeonlohafgaaGreatDoorW.PrintMore
attribute [local go_sem] max2_int min2_int max_two min_two max_three min_three max_four min_four   -- for this text's walks alone
set_option linter.unusedVariables false
set_option linter.unusedSimpArgs false
end Go.Proofs.YtkhgeonlohafgaaGreatDoor.Core
namespace Go.Proofs.YtkhgeonlohafgaaGreatDoor.Core
open Go.RowKit Go.Proofs.YtkhgeonlohafgaaGreatDoorW.PrintWords Go.Proofs.YtkhgeonlohafgaaGreatDoorW.PrintLast Go.Proofs.YtkhgeonlohafgaaGreatDoorW.PrintMore
attribute [local go_sem] max2_int min2_int max_two min_two max_three min_three max_four min_four   -- for this text's walks alone
set_option linter.unusedVariables false
set_option linter.unusedSimpArgs false
def gronx_zzIndex.l0 : Nat → ByteArray → ByteArray → Int → Option (Int)
  | 0, _, _, _ => none
  | k + 1, x0, x1, x5 => if (wrap64 (x5 + (x1.size : Int))) ≤ (x0.size : Int) then (if 0 ≤ x5 then (if x5 ≤ (wrap64 (x5 + (x1.size : Int))) then (if (x0.extract (x5 : Int).toNat ((wrap64 (x5 + (x1.size : Int))) : Int).toNat).toList = x1.toList then (some x5) else (gronx_zzIndex.l0 k x0 x1 (wrap64 (x5 + 1)))) else (none)) else (none)) else (some (-1))
def gronx_zzIndex.f (k : Nat) (a0 : ByteArray) (a1 : ByteArray) : Option (Int) := gronx_zzIndex.l0 k a0 a1 0
set_option maxHeartbeats 8000000 in
set_option maxRecDepth 100000 in
theorem gronx_zzIndex.calls (k : Nat) (a0 : ByteArray) (a1 : ByteArray) (r : Int) (w : World) (h : gronx_zzIndex.f k a0 a1 = some r) :
    Calls Tryz.prog 80 #[.string a0, .string a1] w fun e w' => e = .returned (.int .i64 r) ∧ Drawn0 w w' := by
  have H : (gronx_zzIndex.l0 k a0 a1 0) = some r := h
  clear h
  have H' := Aside0.mk H
  clear H
  go_enter Tryz.func80, Tryz.ntmps80
  go_wp2
  go_loopg [5] k (fun kq v5 w' => ∃ (x5_1 : Int), v5 = .int .i64 x5_1 ∧ Aside0 (gronx_zzIndex.l0 kq a0 a1 x5_1 = some r) ∧ Aside0 (kq ≤ k) ∧ Drawn0 w w')
  case atStart => exact ⟨(0), (by first | rfl | (simp; done) | (simp [*]; done)), H', ⟨Nat.le_refl _⟩, by repeat (first | exact Drawn0.refl _ | apply Drawn0.step)⟩
  case round =>
    clear H'
    try clear p2
    obtain ⟨x5_1, rfl, HA, HK1, ⟨m1, rfl⟩⟩ := hrel
    cases gk with
    | zero => exact absurd HA.out (by simp [gronx_zzIndex.l0])
    | succ k1 =>
      have H := HA.out
      clear HA
      simp only [gronx_zzIndex.l0] at H
      by_cases c3 : (wrap64 (x5_1 + (a1.size : Int))) ≤ (a0.size : Int)
      · rw [if_pos c3] at H
        have c3b0 : decide ((wrap64 (x5_1 + (a1.size : Int))) ≤ (a0.size : Int)) = true := decide_eq_true c3
        clear c3
        by_cases c4 : 0 ≤ x5_1
        · rw [if_pos c4] at H
          have c4b0 := eq_true c4
          have c4b1 : decide (0 ≤ x5_1) = true := decide_eq_true c4
          clear c4
          by_cases c5 : x5_1 ≤ (wrap64 (x5_1 + (a1.size : Int)))
          · rw [if_pos c5] at H
            have c5b0 := eq_true c5
            have c5b1 : decide (x5_1 ≤ (wrap64 (x5_1 + (a1.size : Int)))) = true := decide_eq_true c5
            have c6b0 := eq_true (of_decide_eq_true (by first | (with_reducible assumption) | assumption) : (wrap64 (x5_1 + (a1.size : Int))) ≤ (a0.size : Int))
            by_cases c7 : (a0.extract (x5_1 : Int).toNat ((wrap64 (x5_1 + (a1.size : Int))) : Int).toNat).toList = a1.toList
            · rw [if_pos c7] at H
              have c7b0 : ((a0.extract (x5_1 : Int).toNat ((wrap64 (x5_1 + (a1.size : Int))) : Int).toNat).toList == a1.toList) = true := beq_iff_eq.mpr c7
              have c7b1 : ((a0.extract (x5_1 : Int).toNat ((wrap64 (x5_1 + (a1.size : Int))) : Int).toNat).toList != a1.toList) = false := bne_eq_false_iff_eq.mpr c7
              clear c7
              obtain rfl := Option.some.inj H
              go_wp2
              go_ret
              exact ⟨by first | rfl | (simp; done) | (simp [*]; done), by repeat (first | exact Drawn0.refl _ | apply Drawn0.step)⟩
            · rw [if_neg c7] at H
              have c7b0 : ((a0.extract (x5_1 : Int).toNat ((wrap64 (x5_1 + (a1.size : Int))) : Int).toNat).toList == a1.toList) = false := beq_eq_false_iff_ne.mpr c7
              have c7b1 : ((a0.extract (x5_1 : Int).toNat ((wrap64 (x5_1 + (a1.size : Int))) : Int).toNat).toList != a1.toList) = true := bne_iff_ne.mpr c7
              have H' := Aside0.mk H
              clear H
              go_wp2
              go_roundg k1
              case measure => have := HK1.out; omega
              case rel => exact ⟨(wrap64 (x5_1 + 1)), (by first | rfl | (simp; done) | (simp [*]; done)), H', ⟨by have := HK1.out; omega⟩, by repeat (first | exact Drawn0.refl _ | apply Drawn0.step)⟩
          · rw [if_neg c5] at H
            exact absurd H (by simp)
        · rw [if_neg c4] at H
          exact absurd H (by simp)
      · rw [if_neg c3] at H
        have c3b0 : decide ((wrap64 (x5_1 + (a1.size : Int))) ≤ (a0.size : Int)) = false := decide_eq_false c3
        clear c3
        obtain rfl := Option.some.inj H
        go_wp2
        go_ret
        exact ⟨by first | rfl | (simp; done) | (simp [*]; done), by repeat (first | exact Drawn0.refl _ | apply Drawn0.step)⟩
end Go.Proofs.YtkhgeonlohafgaaGreatDoor.Core
namespace Go.Proofs.YtkhgeonlohafgaaGreatDoor.Core
open Go.RowKit Go.Proofs.YtkhgeonlohafgaaGreatDoorW.PrintWords Go.Proofs.YtkhgeonlohafgaaGreatDoorW.PrintLast Go.Proofs.YtkhgeonlohafgaaGreatDoorW.PrintMore
attribute [local go_sem] max2_int min2_int max_two min_two max_three min_three max_four min_four   -- for this text's walks alone
set_option linter.unusedVariables false
set_option linter.unusedSimpArgs false
def gronx_zzSplit.l0 : Nat → ByteArray → ByteArray → List ByteArray → Option (List ByteArray)
  | 0, _, _, _ => none
  | k + 1, x0, x1, x5 => (gronx_zzIndex.f k x0 x1).bind fun t195 => (if t195 < 0 then (if x5.length < 8796093022208 then (some (x5 ++ [x0])) else (none)) else (if 0 ≤ t195 then (if t195 ≤ (x0.size : Int) then (if x5.length < 8796093022208 then (if 0 ≤ (wrap64 (t195 + (x1.size : Int))) then (if (wrap64 (t195 + (x1.size : Int))) ≤ (x0.size : Int) then (gronx_zzSplit.l0 k (x0.extract ((wrap64 (t195 + (x1.size : Int))) : Int).toNat x0.size) x1 (x5 ++ [x0.extract 0 (t195 : Int).toNat])) else (none)) else (none)) else (none)) else (none)) else (none)))
def gronx_zzSplit.f (k : Nat) (a0 : ByteArray) (a1 : ByteArray) : Option (List ByteArray) := gronx_zzSplit.l0 k a0 a1 ([] : List ByteArray)
set_option maxHeartbeats 8000000 in
set_option maxRecDepth 100000 in
theorem gronx_zzSplit.calls (k : Nat) (a0 : ByteArray) (a1 : ByteArray) (r : List ByteArray) (w : World) (h : gronx_zzSplit.f k a0 a1 = some r) :
    Calls Tryz.prog 54 #[.string a0, .string a1] w fun e w' => ∃ v0_ : Value, e = .returned (v0_) ∧ Kd.R Kd.string 9 w' w.heap.size (fun _ => True) v0_ r ∧ Below w.heap.size w w' := by
  have HB := Aside0.mk (Below.refl w.heap.size w)
  have H : (gronx_zzSplit.l0 k a0 a1 ([] : List ByteArray)) = some r := h
  clear h
  have H' := Aside0.mk H
  clear H
  go_enter Tryz.func54, Tryz.ntmps54
  go_wp2
  go_loopg [0, 5] k (fun kq v0 v5 w' => ∃ (x0_1 : ByteArray) (x5_1 : List ByteArray), v0 = .string x0_1 ∧ Aside0 (gronx_zzSplit.l0 kq x0_1 a1 x5_1 = some r) ∧ Aside0 (kq ≤ k) ∧ Aside0 (Kd.R Kd.string 9 w' w.heap.size (fun _ => True) v5 x5_1) ∧ Aside0 (Below w.heap.size w w'))
  case atStart => exact ⟨(a0), (([] : List ByteArray)), (by first | rfl | (simp; done) | (simp [*]; done)), H', ⟨Nat.le_refl _⟩, ⟨by first | exact Kd.R_nil _ _ _ _ _ | exact Kd.N_nil _ _ _ _ _ | exact Kd.V_nil _ _ _ _ _ | exact Kd.Q_nil _ _ _ _ _ | exact Kd.S_nil _ _ _ _ _⟩, ⟨by repeat (first | (with_reducible first | exact HB.out | apply below_alloc | apply pw_below_drewN | apply below_drew1) | exact HB.out)⟩⟩
  case round =>
    clear H'
    try clear p2
    obtain ⟨x0_1, x5_1, rfl, HA, HK1, HO_5, HB⟩ := hrel
    cases gk with
    | zero => exact absurd HA.out (by simp [gronx_zzSplit.l0])
    | succ k1 =>
      have H := HA.out
      clear HA
      simp only [gronx_zzSplit.l0] at H
      replace H := Option.bind_eq_some_iff.mp H
      obtain ⟨t195, A30, H⟩ := H
      replace H : (if t195 < 0 then (if x5_1.length < 8796093022208 then (some (x5_1 ++ [x0_1])) else (none)) else (if 0 ≤ t195 then (if t195 ≤ (x0_1.size : Int) then (if x5_1.length < 8796093022208 then (if 0 ≤ (wrap64 (t195 + (a1.size : Int))) then (if (wrap64 (t195 + (a1.size : Int))) ≤ (x0_1.size : Int) then (gronx_zzSplit.l0 k1 (x0_1.extract ((wrap64 (t195 + (a1.size : Int))) : Int).toNat x0_1.size) a1 (x5_1 ++ [x0_1.extract 0 (t195 : Int).toNat])) else (none)) else (none)) else (none)) else (none)) else (none))) = some r := H
      have A3 := Aside0.mk A30
      clear A30
      by_cases c4 : t195 < 0
      · rw [if_pos c4] at H
        have c4b0 : decide (t195 < 0) = true := decide_eq_true c4
        clear c4
        by_cases c5 : x5_1.length < 8796093022208
        · rw [if_pos c5] at H
          have LMc5 := Aside0.mk c5
          clear c5
          obtain ⟨y196, hy196⟩ : ∃ y_ : List ByteArray, y_ = (x5_1 ++ [x0_1]) := ⟨_, rfl⟩
          replace H : (some y196) = some r := by first | (rw [hy196]; with_reducible exact H) | (have H2_ := (Option.bind_some _ _).symm.trans H; rw [hy196]; with_reducible exact H2_) | (have H2_ := (Option.bind_some _ _).symm.trans H; with_reducible exact H2_) | with_reducible exact H | (rw [hy196]; exact H) | exact H
          have Ny196 := Aside0.mk hy196
          clear hy196
          obtain rfl := Option.some.inj H
          go_wp2_with (first | ((with_reducible refine gate_callee (f := 80) rfl ?_); refine goesL_ (some 9) rfl rfl Tryz.func80 (by kernel_rfl) rfl #[.string x0_1, .string a1] rfl (by (try simp only [List.map_toArray, List.map_cons, List.map_nil]); first | done | rfl | (simp only [List.length_drop, List.length_take]; rfl)) ?_; (with_reducible refine (gronx_zzIndex.calls k1 x0_1 a1 t195 _ A3.out).mono ?_); rintro e w' ⟨rfl, ⟨nd, rfl⟩⟩; refine ⟨_, rfl, ?_⟩) | ((with_reducible refine gate_builtin (b := .append) (xs := #[.tmp 12, .tmp 14]) rfl ?_); at_builtin; refine Kd.R_append Kd.string (w0 := w) w.heap.size rfl (.tmp 12) (.tmp 14) 43 9 (.string ⟨#[]⟩) 16 rfl Tryz.underlying43 info9 rfl (by decide) (by omega) u5 x5_1 x0_1 [.string x0_1] (fun _ => True) (fun _ => False) rfl rfl ?aP (fun _ hk => hk.elim) ?aF ?aO ?aB ?aS ?aL ?_; (case aP => exact rfl); (case aB => exact (by repeat (first | (with_reducible first | exact HB.out | apply below_alloc | apply pw_below_drewN | apply below_drew1) | exact HB.out))); (case aF => exact (fun _ _ => trivial)); (case aO => exact (by (with_reducible repeat (first | apply Kd.R_alloc | apply Kd.R_drewN | apply Kd.R_drew)); exact HO_5.out)); (case aS => exact (below_size (by repeat (first | (with_reducible first | exact HB.out | apply below_alloc | apply pw_below_drewN | apply below_drew1) | exact HB.out)))); (case aL => have := LMc5.out; omega); intro v197 w6 ho hb hg hat; rw [← Ny196.out] at ho; have n0_ := Aside0.mk (hb); have n1_ := Aside0.mk (ho); clear HB; clear HO_5; have HB := n0_; have HO198 := n1_; clear n0_ n1_; clear ho hb hg hat))
          go_ret
          exact ⟨_, by first | rfl | (simp [errW_none, errW_some] <;> rfl) | (simp [*, errW_none, errW_some] <;> rfl), by (with_reducible repeat (first | apply Kd.R_alloc | apply Kd.R_drewN | apply Kd.R_drew)); exact HO198.out, by repeat (first | (with_reducible first | exact HB.out | apply below_alloc | apply pw_below_drewN | apply below_drew1) | exact HB.out)⟩
        · rw [if_neg c5] at H
          exact absurd H (by simp)
      · rw [if_neg c4] at H
        have c4b0 : decide (t195 < 0) = false := decide_eq_false c4
        clear c4
        by_cases c7 : 0 ≤ t195
        · rw [if_pos c7] at H
          have c7b0 := eq_true c7
          have c7b1 : decide (0 ≤ t195) = true := decide_eq_true c7
          clear c7
          by_cases c8 : t195 ≤ (x0_1.size : Int)
          · rw [if_pos c8] at H
            have c8b0 := eq_true c8
            have c8b1 : decide (t195 ≤ (x0_1.size : Int)) = true := decide_eq_true c8
            clear c8
            by_cases c9 : x5_1.length < 8796093022208
            · rw [if_pos c9] at H
              have LMc9 := Aside0.mk c9
              clear c9
              obtain ⟨y199, hy199⟩ : ∃ y_ : List ByteArray, y_ = (x5_1 ++ [x0_1.extract 0 (t195 : Int).toNat]) := ⟨_, rfl⟩
              replace H : (if 0 ≤ (wrap64 (t195 + (a1.size : Int))) then (if (wrap64 (t195 + (a1.size : Int))) ≤ (x0_1.size : Int) then (gronx_zzSplit.l0 k1 (x0_1.extract ((wrap64 (t195 + (a1.size : Int))) : Int).toNat x0_1.size) a1 y199) else (none)) else (none)) = some r := by first | (rw [hy199]; with_reducible exact H) | (have H2_ := (Option.bind_some _ _).symm.trans H; rw [hy199]; with_reducible exact H2_) | (have H2_ := (Option.bind_some _ _).symm.trans H; with_reducible exact H2_) | with_reducible exact H | (rw [hy199]; exact H) | exact H
              have Ny199 := Aside0.mk hy199
              clear hy199
              obtain ⟨ji10, hji10⟩ : ∃ j_ : Int, (wrap64 (t195 + (a1.size : Int))) = j_ := ⟨_, rfl⟩
              replace H : (if 0 ≤ (ji10) then (if (ji10) ≤ (x0_1.size : Int) then (gronx_zzSplit.l0 k1 (x0_1.extract ((ji10) : Int).toNat x0_1.size) a1 y199) else (none)) else (none)) = some r := by first | (rw [hji10] at H; exact H) | (simp only [hji10] at H ⊢; exact H)
              (try rw [hji10] at A3)
              have hji10w : (IntKind.i64.wrap (t195 + (a1.size : Int))) = ji10 := (i64_w _).trans hji10
              by_cases c11 : 0 ≤ (ji10)
              · rw [if_pos c11] at H
                have c11b0 := eq_true c11
                have c11b1 : decide (0 ≤ (ji10)) = true := decide_eq_true c11
                clear c11
                by_cases c12 : (ji10) ≤ (x0_1.size : Int)
                · rw [if_pos c12] at H
                  have c12b0 := eq_true c12
                  have c12b1 : decide ((ji10) ≤ (x0_1.size : Int)) = true := decide_eq_true c12
                  clear c12
                  have H' := Aside0.mk H
                  clear H
                  go_wp2_with (first | ((with_reducible refine gate_callee (f := 80) rfl ?_); refine goesL_ (some 9) rfl rfl Tryz.func80 (by kernel_rfl) rfl #[.string x0_1, .string a1] rfl (by (try simp only [List.map_toArray, List.map_cons, List.map_nil]); first | done | rfl | (simp only [List.length_drop, List.length_take]; rfl)) ?_; (with_reducible refine (gronx_zzIndex.calls k1 x0_1 a1 t195 _ A3.out).mono ?_); rintro e w' ⟨rfl, ⟨nd, rfl⟩⟩; refine ⟨_, rfl, ?_⟩) | ((with_reducible refine gate_builtin (b := .append) (xs := #[.tmp 16, .tmp 20]) rfl ?_); at_builtin; refine Kd.R_append Kd.string (w0 := w) w.heap.size rfl (.tmp 16) (.tmp 20) 43 9 (.string ⟨#[]⟩) 16 rfl Tryz.underlying43 info9 rfl (by decide) (by omega) u5 x5_1 (x0_1.extract 0 (t195 : Int).toNat) [.string (x0_1.extract 0 (t195 : Int).toNat)] (fun _ => True) (fun _ => False) rfl rfl ?aP (fun _ hk => hk.elim) ?aF ?aO ?aB ?aS ?aL ?_; (case aP => exact rfl); (case aB => exact (by repeat (first | (with_reducible first | exact HB.out | apply below_alloc | apply pw_below_drewN | apply below_drew1) | exact HB.out))); (case aF => exact (fun _ _ => trivial)); (case aO => exact (by (with_reducible repeat (first | apply Kd.R_alloc | apply Kd.R_drewN | apply Kd.R_drew)); exact HO_5.out)); (case aS => exact (below_size (by repeat (first | (with_reducible first | exact HB.out | apply below_alloc | apply pw_below_drewN | apply below_drew1) | exact HB.out)))); (case aL => have := LMc9.out; omega); intro v200 w13 ho hb hg hat; rw [← Ny199.out] at ho; have n0_ := Aside0.mk (hb); have n1_ := Aside0.mk (ho); clear HB; clear HO_5; have HB := n0_; have HO201 := n1_; clear n0_ n1_; clear ho hb hg hat))
                  go_roundg k1
                  case measure => have := HK1.out; omega
                  case rel => exact ⟨(x0_1.extract ((ji10) : Int).toNat x0_1.size), (y199), (by first | rfl | (simp; done) | (simp only [← hji10] <;> (first | rfl | simp)) | (simp [*]; done)), H', ⟨by have := HK1.out; omega⟩, ⟨by (with_reducible repeat (first | apply Kd.R_alloc | apply Kd.R_drewN | apply Kd.R_drew)); exact HO201.out⟩, ⟨by repeat (first | (with_reducible first | exact HB.out | apply below_alloc | apply pw_below_drewN | apply below_drew1) | exact HB.out)⟩⟩
                · rw [if_neg c12] at H
                  exact absurd H (by simp)
              · rw [if_neg c11] at H
                exact absurd H (by simp)
            · rw [if_neg c9] at H
              exact absurd H (by simp)
          · rw [if_neg c8] at H
            exact absurd H (by simp)
        · rw [if_neg c7] at H
          exact absurd H (by simp)
end Go.Proofs.YtkhgeonlohafgaaGreatDoor.Core
namespace Go.Proofs.YtkhgeonlohafgaaGreatDoor.Core
open Go.RowKit Go.Proofs.YtkhgeonlohafgaaGreatDoorW.PrintWords Go.Proofs.YtkhgeonlohafgaaGreatDoorW.PrintLast Go.Proofs.YtkhgeonlohafgaaGreatDoorW.PrintMore
attribute [local go_sem] max2_int min2_int max_two min_two max_three min_three max_four min_four   -- for this text's walks alone
set_option linter.unusedVariables false
set_option linter.unusedSimpArgs false
mutual
def gronx_zzTrim.j1 : Nat → ByteArray → Option (ByteArray)
  | 0, _ => none
  | k + 1, x0 => gronx_zzTrim.l1 k x0
def gronx_zzTrim.l1 : Nat → ByteArray → Option (ByteArray)
  | 0, _ => none
  | k + 1, x0 => if (x0.size : Int) > 0 then (if 0 ≤ (wrap64 ((x0.size : Int) - 1)) then (if (wrap64 ((x0.size : Int) - 1)) < (x0.size : Int) then (if (bt x0 (wrap64 ((x0.size : Int) - 1))) = 32 then (if (wrap64 ((x0.size : Int) - 1)) ≤ (x0.size : Int) then (gronx_zzTrim.l1 k (x0.extract 0 ((wrap64 ((x0.size : Int) - 1)) : Int).toNat)) else (none)) else (if (bt x0 (wrap64 ((x0.size : Int) - 1))) = 9 then (if (wrap64 ((x0.size : Int) - 1)) ≤ (x0.size : Int) then (gronx_zzTrim.l1 k (x0.extract 0 ((wrap64 ((x0.size : Int) - 1)) : Int).toNat)) else (none)) else (some x0))) else (none)) else (none)) else (some x0)
def gronx_zzTrim.l0 : Nat → ByteArray → Option (ByteArray)
  | 0, _ => none
  | k + 1, x0 => if (x0.size : Int) > 0 then (if 0 < (x0.size : Int) then (if (bt x0 0) = 32 then (if 1 ≤ (x0.size : Int) then (gronx_zzTrim.l0 k (x0.extract 1 x0.size)) else (none)) else (if (bt x0 0) = 9 then (if 1 ≤ (x0.size : Int) then (gronx_zzTrim.l0 k (x0.extract 1 x0.size)) else (none)) else (gronx_zzTrim.j1 k x0))) else (none)) else (gronx_zzTrim.j1 k x0)
end
def gronx_zzTrim.f (k : Nat) (a0 : ByteArray) : Option (ByteArray) := gronx_zzTrim.l0 k a0
set_option maxHeartbeats 8000000 in
set_option maxRecDepth 100000 in
theorem gronx_zzTrim.calls (k : Nat) (a0 : ByteArray) (r : ByteArray) (w : World) (h : gronx_zzTrim.f k a0 = some r) :
    Calls Tryz.prog 73 #[.string a0] w fun e w' => e = .returned (.string r) ∧ Drawn0 w w' := by
  have H : (gronx_zzTrim.l0 k a0) = some r := h
  clear h
  have HC2 := Aside0.mk H
  clear H
  go_enter Tryz.func73, Tryz.ntmps73
  go_upto_block 0 with (fail)
  go_cut [0] (fun v0 wc => ∃ (kq : Nat) (x0_1 : ByteArray), v0 = .string x0_1 ∧ Aside0 (gronx_zzTrim.j1 kq x0_1 = some r) ∧ Aside0 (kq ≤ k) ∧ Drawn0 w wc)
  case first =>
    have H := HC2.out
    clear HC2
    have H' := Aside0.mk H
    clear H
    go_wp2
    go_loopg [0] k (fun kq v0 w' => ∃ (x0_1 : ByteArray), v0 = .string x0_1 ∧ Aside0 (gronx_zzTrim.l0 kq x0_1 = some r) ∧ Aside0 (kq ≤ k) ∧ Drawn0 w w')
    case atStart => exact ⟨(a0), (by first | rfl | (simp; done) | (simp [*]; done)), H', ⟨Nat.le_refl _⟩, by repeat (first | exact Drawn0.refl _ | apply Drawn0.step)⟩
    case round =>
      clear H'
      try clear p2
      obtain ⟨x0_1, rfl, HA, HK1, ⟨m1, rfl⟩⟩ := hrel
      cases gk with
      | zero => exact absurd HA.out (by simp [gronx_zzTrim.l0])
      | succ k1 =>
        have H := HA.out
        clear HA
        simp only [gronx_zzTrim.l0] at H
        by_cases c3 : (x0_1.size : Int) > 0
        · rw [if_pos c3] at H
          have c3b0 : decide (0 < (x0_1.size : Int)) = true := decide_eq_true c3
          have c3b1 : decide (0 < x0_1.size) = true := decide_eq_true (by omega)
          clear c3
          (first | rw [c3b0] | (simp only [i64_w, i32_w]; rw [c3b0]) | skip)
          by_cases c4 : 0 < (x0_1.size : Int)
          · rw [if_pos c4] at H
            have c4b0 : decide (0 < (x0_1.size : Int)) = true := decide_eq_true c4
            have c4b1 : decide (0 < x0_1.size) = true := decide_eq_true (by omega)
            clear c4
            by_cases c6 : (bt x0_1 0) = 32
            · rw [if_pos c6] at H
              have c6b0 : ((bt x0_1 0) == 32) = true := beq_iff_eq.mpr c6
              have c6b1 : ((bt x0_1 0) != 32) = false := bne_eq_false_iff_eq.mpr c6
              clear c6
              by_cases c7 : 1 ≤ (x0_1.size : Int)
              · rw [if_pos c7] at H
                have c7b0 := eq_true c7
                have c7b1 : decide (1 ≤ (x0_1.size : Int)) = true := decide_eq_true c7
                clear c7
                have H' := Aside0.mk H
                clear H
                have p5 : 0 ≤ (0 : Int) := (by omega)
                have q5 : 0 < x0_1.size := (by have : (0 : Int) < (x0_1.size : Int) := of_decide_eq_true (by first | (with_reducible assumption) | assumption); omega)
                have hx5 : ∀ h : 0 < x0_1.size, ((x0_1[0]'h).toNat : Int) = bt x0_1 0 := bt_at x0_1 0
                clear p5
                have qi5 : (0 < (x0_1.size : Int)) = True := eq_true (of_decide_eq_true (by first | (with_reducible assumption) | assumption))
                replace q5 := eq_true q5
                go_wp2
                go_roundg k1
                case measure => have := HK1.out; omega
                case rel => exact ⟨(x0_1.extract 1 x0_1.size), (by first | rfl | (simp; done) | (simp [*]; done)), H', ⟨by have := HK1.out; omega⟩, by repeat (first | exact Drawn0.refl _ | apply Drawn0.step)⟩
              · rw [if_neg c7] at H
                exact absurd H (by simp)
            · rw [if_neg c6] at H
              have c6b0 : ((bt x0_1 0) == 32) = false := beq_eq_false_iff_ne.mpr c6
              have c6b1 : ((bt x0_1 0) != 32) = true := bne_iff_ne.mpr c6
              by_cases c9 : (bt x0_1 0) = 9
              · rw [if_pos c9] at H
                have c9b0 : ((bt x0_1 0) == 9) = true := beq_iff_eq.mpr c9
                have c9b1 : ((bt x0_1 0) != 9) = false := bne_eq_false_iff_eq.mpr c9
                clear c9
                by_cases c10 : 1 ≤ (x0_1.size : Int)
                · rw [if_pos c10] at H
                  have c10b0 := eq_true c10
                  have c10b1 : decide (1 ≤ (x0_1.size : Int)) = true := decide_eq_true c10
                  clear c10
                  have H' := Aside0.mk H
                  clear H
                  have p5 : 0 ≤ (0 : Int) := (by omega)
                  have q5 : 0 < x0_1.size := (by have : (0 : Int) < (x0_1.size : Int) := of_decide_eq_true (by first | (with_reducible assumption) | assumption); omega)
                  have hx5 : ∀ h : 0 < x0_1.size, ((x0_1[0]'h).toNat : Int) = bt x0_1 0 := bt_at x0_1 0
                  clear p5
                  have qi5 : (0 < (x0_1.size : Int)) = True := eq_true (of_decide_eq_true (by first | (with_reducible assumption) | assumption))
                  replace q5 := eq_true q5
                  have p8 : 0 ≤ (0 : Int) := (by omega)
                  have q8 : 0 < x0_1.size := (by have : (0 : Int) < (x0_1.size : Int) := of_decide_eq_true (by first | (with_reducible assumption) | assumption); omega)
                  have hx8 : ∀ h : 0 < x0_1.size, ((x0_1[0]'h).toNat : Int) = bt x0_1 0 := bt_at x0_1 0
                  clear p8
                  have qi8 : (0 < (x0_1.size : Int)) = True := eq_true (of_decide_eq_true (by first | (with_reducible assumption) | assumption))
                  replace q8 := eq_true q8
                  go_wp2
                  go_roundg k1
                  case measure => have := HK1.out; omega
                  case rel => exact ⟨(x0_1.extract 1 x0_1.size), (by first | rfl | (simp; done) | (simp [*]; done)), H', ⟨by have := HK1.out; omega⟩, by repeat (first | exact Drawn0.refl _ | apply Drawn0.step)⟩
                · rw [if_neg c10] at H
                  exact absurd H (by simp)
              · rw [if_neg c9] at H
                have c9b0 : ((bt x0_1 0) == 9) = false := beq_eq_false_iff_ne.mpr c9
                have c9b1 : ((bt x0_1 0) != 9) = true := bne_iff_ne.mpr c9
                have H' := Aside0.mk H
                clear H
                have p5 : 0 ≤ (0 : Int) := (by omega)
                have q5 : 0 < x0_1.size := (by have : (0 : Int) < (x0_1.size : Int) := of_decide_eq_true (by first | (with_reducible assumption) | assumption); omega)
                have hx5 : ∀ h : 0 < x0_1.size, ((x0_1[0]'h).toNat : Int) = bt x0_1 0 := bt_at x0_1 0
                clear p5
                have qi5 : (0 < (x0_1.size : Int)) = True := eq_true (of_decide_eq_true (by first | (with_reducible assumption) | assumption))
                replace q5 := eq_true q5
                have p8 : 0 ≤ (0 : Int) := (by omega)
                have q8 : 0 < x0_1.size := (by have : (0 : Int) < (x0_1.size : Int) := of_decide_eq_true (by first | (with_reducible assumption) | assumption); omega)
                have hx8 : ∀ h : 0 < x0_1.size, ((x0_1[0]'h).toNat : Int) = bt x0_1 0 := bt_at x0_1 0
                clear p8
                have qi8 : (0 < (x0_1.size : Int)) = True := eq_true (of_decide_eq_true (by first | (with_reducible assumption) | assumption))
                replace q8 := eq_true q8
                go_wp2
                go_meet
                case rel => exact ⟨_, (x0_1), (by first | rfl | (simp; done) | (simp [*]; done)), H', ⟨by have := HK1.out; first | omega | exact Nat.le_refl _⟩, by repeat (first | exact Drawn0.refl _ | apply Drawn0.step)⟩
          · rw [if_neg c4] at H
            exact absurd H (by simp)
        · rw [if_neg c3] at H
          have c3b0 : decide (0 < (x0_1.size : Int)) = false := decide_eq_false c3
          have c3b1 : decide (0 < x0_1.size) = false := decide_eq_false (by omega)
          clear c3
          (first | rw [c3b0] | (simp only [i64_w, i32_w]; rw [c3b0]) | skip)
          have H' := Aside0.mk H
          clear H
          go_wp2
          go_meet
          case rel => exact ⟨_, (x0_1), (by first | rfl | (simp; done) | (simp [*]; done)), H', ⟨by have := HK1.out; first | omega | exact Nat.le_refl _⟩, by repeat (first | exact Drawn0.refl _ | apply Drawn0.step)⟩
  case rest =>
    clear HC2
    try clear c1
    try clear p2
    try clear c3
    try clear c3b0
    try clear c3b1
    try clear c4
    try clear c4b0
    try clear c4b1
    try clear p5
    try clear q5
    try clear hx5
    try clear qi5
    try clear c6
    try clear c6b0
    try clear c6b1
    try clear c7
    try clear c7b0
    try clear c7b1
    try clear p8
    try clear q8
    try clear hx8
    try clear qi8
    try clear c9
    try clear c9b0
    try clear c9b1
    try clear c10
    try clear c10b0
    try clear c10b1
    try clear p2
    try clear p5
    try clear p8
    try clear q5
    try clear q8
    obtain ⟨kq, x0_1, rfl, HA, HJ1, ⟨mc1, rfl⟩⟩ := hcut
    cases kq with
    | zero => exact absurd HA.out (by simp [gronx_zzTrim.j1])
    | succ kj1 =>
      have H := HA.out
      clear HA
      simp only [gronx_zzTrim.j1] at H
      have H' := Aside0.mk H
      clear H
      go_wp2
      go_loopg [0] kj1 (fun kq v0 w' => ∃ (x0_2 : ByteArray), v0 = .string x0_2 ∧ Aside0 (gronx_zzTrim.l1 kq x0_2 = some r) ∧ Aside0 (kq ≤ kj1) ∧ Drawn0 w w')
      case atStart => exact ⟨(x0_1), (by first | rfl | (simp; done) | (simp [*]; done)), H', ⟨Nat.le_refl _⟩, by repeat (first | exact Drawn0.refl _ | apply Drawn0.step)⟩
      case round =>
        clear H'
        try clear c1
        try clear p2
        try clear c3
        try clear c3b0
        try clear c3b1
        try clear c4
        try clear c4b0
        try clear c4b1
        try clear p5
        try clear q5
        try clear hx5
        try clear qi5
        try clear c6
        try clear c6b0
        try clear c6b1
        try clear c7
        try clear c7b0
        try clear c7b1
        try clear p8
        try clear q8
        try clear hx8
        try clear qi8
        try clear c9
        try clear c9b0
        try clear c9b1
        try clear c10
        try clear c10b0
        try clear c10b1
        try clear p2
        try clear p5
        try clear p8
        try clear q5
        try clear q8
        obtain ⟨x0_2, rfl, HA, HK2, ⟨m2, rfl⟩⟩ := hrel
        cases gk with
        | zero => exact absurd HA.out (by simp [gronx_zzTrim.l1])
        | succ k2 =>
          have H := HA.out
          clear HA
          simp only [gronx_zzTrim.l1] at H
          by_cases c11 : (x0_2.size : Int) > 0
          · rw [if_pos c11] at H
            have c11b0 : decide (0 < (x0_2.size : Int)) = true := decide_eq_true c11
            have c11b1 : decide (0 < x0_2.size) = true := decide_eq_true (by omega)
            clear c11
            obtain ⟨ji12, hji12⟩ : ∃ j_ : Int, (wrap64 ((x0_2.size : Int) - 1)) = j_ := ⟨_, rfl⟩
            replace H : (if 0 ≤ (ji12) then (if (ji12) < (x0_2.size : Int) then (if (bt x0_2 (ji12)) = 32 then (if (ji12) ≤ (x0_2.size : Int) then (gronx_zzTrim.l1 k2 (x0_2.extract 0 ((ji12) : Int).toNat)) else (none)) else (if (bt x0_2 (ji12)) = 9 then (if (ji12) ≤ (x0_2.size : Int) then (gronx_zzTrim.l1 k2 (x0_2.extract 0 ((ji12) : Int).toNat)) else (none)) else (some x0_2))) else (none)) else (none)) = some r := by first | (rw [hji12] at H; exact H) | (simp only [hji12] at H ⊢; exact H)
            have hji12w : (IntKind.i64.wrap ((x0_2.size : Int) - 1)) = ji12 := (i64_w _).trans hji12
            by_cases c13 : 0 ≤ (ji12)
            · rw [if_pos c13] at H
              have c13b0 : decide (0 ≤ (ji12)) = true := decide_eq_true c13
              clear c13
              by_cases c14 : (ji12) < (x0_2.size : Int)
              · rw [if_pos c14] at H
                have c14b0 : decide ((ji12) < (x0_2.size : Int)) = true := decide_eq_true c14
                clear c14
                by_cases c16 : (bt x0_2 (ji12)) = 32
                · rw [if_pos c16] at H
                  have c16b0 : ((bt x0_2 (ji12)) == 32) = true := beq_iff_eq.mpr c16
                  have c16b1 : ((bt x0_2 (ji12)) != 32) = false := bne_eq_false_iff_eq.mpr c16
                  clear c16
                  have c17b0 := eq_true (of_decide_eq_true (by first | (with_reducible assumption) | assumption) : 0 ≤ (ji12))
                  by_cases c18 : (ji12) ≤ (x0_2.size : Int)
                  · rw [if_pos c18] at H
                    have c18b0 := eq_true c18
                    have c18b1 : decide ((ji12) ≤ (x0_2.size : Int)) = true := decide_eq_true c18
                    clear c18
                    have H' := Aside0.mk H
                    clear H
                    have p15 : 0 ≤ ((ji12) : Int) := of_decide_eq_true (by first | (with_reducible assumption) | assumption)
                    have q15 : (ji12) < (x0_2.size : Int) := of_decide_eq_true (by first | (with_reducible assumption) | assumption)
                    have hx15 := bt_at x0_2 (ji12)
                    replace p15 := eq_true p15
                    replace q15 := eq_true q15
                    go_wp2
                    go_roundg k2
                    case measure => have := HJ1.out; have := HK2.out; omega
                    case rel => exact ⟨(x0_2.extract 0 ((ji12) : Int).toNat), (by first | rfl | (simp; done) | (simp only [← hji12] <;> (first | rfl | simp)) | (simp [*]; done)), H', ⟨by have := HJ1.out; have := HK2.out; omega⟩, by repeat (first | exact Drawn0.refl _ | apply Drawn0.step)⟩
                  · rw [if_neg c18] at H
                    exact absurd H (by simp)
                · rw [if_neg c16] at H
                  have c16b0 : ((bt x0_2 (ji12)) == 32) = false := beq_eq_false_iff_ne.mpr c16
                  have c16b1 : ((bt x0_2 (ji12)) != 32) = true := bne_iff_ne.mpr c16
                  by_cases c20 : (bt x0_2 (ji12)) = 9
                  · rw [if_pos c20] at H
                    have c20b0 : ((bt x0_2 (ji12)) == 9) = true := beq_iff_eq.mpr c20
                    have c20b1 : ((bt x0_2 (ji12)) != 9) = false := bne_eq_false_iff_eq.mpr c20
                    clear c20
                    have c21b0 := eq_true (of_decide_eq_true (by first | (with_reducible assumption) | assumption) : 0 ≤ (ji12))
                    by_cases c22 : (ji12) ≤ (x0_2.size : Int)
                    · rw [if_pos c22] at H
                      have c22b0 := eq_true c22
                      have c22b1 : decide ((ji12) ≤ (x0_2.size : Int)) = true := decide_eq_true c22
                      clear c22
                      have H' := Aside0.mk H
                      clear H
                      have p15 : 0 ≤ ((ji12) : Int) := of_decide_eq_true (by first | (with_reducible assumption) | assumption)
                      have q15 : (ji12) < (x0_2.size : Int) := of_decide_eq_true (by first | (with_reducible assumption) | assumption)
                      have hx15 := bt_at x0_2 (ji12)
                      replace p15 := eq_true p15
                      replace q15 := eq_true q15
                      have p19 : 0 ≤ ((ji12) : Int) := of_decide_eq_true (by first | (with_reducible assumption) | assumption)
                      have q19 : (ji12) < (x0_2.size : Int) := of_decide_eq_true (by first | (with_reducible assumption) | assumption)
                      have hx19 := bt_at x0_2 (ji12)
                      replace p19 := eq_true p19
                      replace q19 := eq_true q19
                      go_wp2
                      go_roundg k2
                      case measure => have := HJ1.out; have := HK2.out; omega
                      case rel => exact ⟨(x0_2.extract 0 ((ji12) : Int).toNat), (by first | rfl | (simp; done) | (simp only [← hji12] <;> (first | rfl | simp)) | (simp [*]; done)), H', ⟨by have := HJ1.out; have := HK2.out; omega⟩, by repeat (first | exact Drawn0.refl _ | apply Drawn0.step)⟩
                    · rw [if_neg c22] at H
                      exact absurd H (by simp)
                  · rw [if_neg c20] at H
                    have c20b0 : ((bt x0_2 (ji12)) == 9) = false := beq_eq_false_iff_ne.mpr c20
                    have c20b1 : ((bt x0_2 (ji12)) != 9) = true := bne_iff_ne.mpr c20
                    obtain rfl := Option.some.inj H
                    have p15 : 0 ≤ ((ji12) : Int) := of_decide_eq_true (by first | (with_reducible assumption) | assumption)
                    have q15 : (ji12) < (x0_2.size : Int) := of_decide_eq_true (by first | (with_reducible assumption) | assumption)
                    have hx15 := bt_at x0_2 (ji12)
                    replace p15 := eq_true p15
                    replace q15 := eq_true q15
                    have p19 : 0 ≤ ((ji12) : Int) := of_decide_eq_true (by first | (with_reducible assumption) | assumption)
                    have q19 : (ji12) < (x0_2.size : Int) := of_decide_eq_true (by first | (with_reducible assumption) | assumption)
                    have hx19 := bt_at x0_2 (ji12)
                    replace p19 := eq_true p19
                    replace q19 := eq_true q19
                    go_wp2
                    go_ret
                    exact ⟨by first | rfl | (simp; done) | (simp only [← hji12] <;> (first | rfl | simp)) | (simp [*]; done), by repeat (first | exact Drawn0.refl _ | apply Drawn0.step)⟩
              · rw [if_neg c14] at H
                exact absurd H (by simp)
            · rw [if_neg c13] at H
              exact absurd H (by simp)
          · rw [if_neg c11] at H
            have c11b0 : decide (0 < (x0_2.size : Int)) = false := decide_eq_false c11
            have c11b1 : decide (0 < x0_2.size) = false := decide_eq_false (by omega)
            clear c11
            obtain rfl := Option.some.inj H
            go_wp2
            go_ret
            exact ⟨by first | rfl | (simp; done) | (simp [*]; done), by repeat (first | exact Drawn0.refl _ | apply Drawn0.step)⟩
end Go.Proofs.YtkhgeonlohafgaaGreatDoor.Core
namespace Go.Proofs.YtkhgeonlohafgaaGreatDoor.Core
open Go.RowKit Go.Proofs.YtkhgeonlohafgaaGreatDoorW.PrintWords Go.Proofs.YtkhgeonlohafgaaGreatDoorW.PrintLast Go.Proofs.YtkhgeonlohafgaaGreatDoorW.PrintMore
attribute [local go_sem] max2_int min2_int max_two min_two max_three min_three max_four min_four   -- for this text's walks alone
set_option linter.unusedVariables false
set_option linter.unusedSimpArgs false
def gronx_expression.f (a0 : ByteArray) : Option (ByteArray × Bool) := if a0.toList = ([64, 121, 101, 97, 114, 108, 121] : List UInt8) then (some ((⟨#[48, 32, 48, 32, 49, 32, 49, 32, 42]⟩ : ByteArray), true)) else (if a0.toList = ([64, 97, 110, 110, 117, 97, 108, 108, 121] : List UInt8) then (some ((⟨#[48, 32, 48, 32, 49, 32, 49, 32, 42]⟩ : ByteArray), true)) else (if a0.toList = ([64, 109, 111, 110, 116, 104, 108, 121] : List UInt8) then (some ((⟨#[48, 32, 48, 32, 49, 32, 42, 32, 42]⟩ : ByteArray), true)) else (if a0.toList = ([64, 119, 101, 101, 107, 108, 121] : List UInt8) then (some ((⟨#[48, 32, 48, 32, 42, 32, 42, 32, 48]⟩ : ByteArray), true)) else (if a0.toList = ([64, 100, 97, 105, 108, 121] : List UInt8) then (some ((⟨#[48, 32, 48, 32, 42, 32, 42, 32, 42]⟩ : ByteArray), true)) else (if a0.toList = ([64, 104, 111, 117, 114, 108, 121] : List UInt8) then (some ((⟨#[48, 32, 42, 32, 42, 32, 42, 32, 42]⟩ : ByteArray), true)) else (if a0.toList = ([64, 97, 108, 119, 97, 121, 115] : List UInt8) then (some ((⟨#[42, 32, 42, 32, 42, 32, 42, 32, 42]⟩ : ByteArray), true)) else (if a0.toList = ([64, 53, 109, 105, 110, 117, 116, 101, 115] : List UInt8) then (some ((⟨#[42, 47, 53, 32, 42, 32, 42, 32, 42, 32, 42]⟩ : ByteArray), true)) else (if a0.toList = ([64, 49, 48, 109, 105, 110, 117, 116, 101, 115] : List UInt8) then (some ((⟨#[42, 47, 49, 48, 32, 42, 32, 42, 32, 42, 32, 42]⟩ : ByteArray), true)) else (if a0.toList = ([64, 49, 53, 109, 105, 110, 117, 116, 101, 115] : List UInt8) then (some ((⟨#[42, 47, 49, 53, 32, 42, 32, 42, 32, 42, 32, 42]⟩ : ByteArray), true)) else (if a0.toList = ([64, 51, 48, 109, 105, 110, 117, 116, 101, 115] : List UInt8) then (some ((⟨#[48, 44, 51, 48, 32, 42, 32, 42, 32, 42, 32, 42]⟩ : ByteArray), true)) else (if a0.toList = ([64, 101, 118, 101, 114, 121, 115, 101, 99, 111, 110, 100] : List UInt8) then (some ((⟨#[42, 32, 42, 32, 42, 32, 42, 32, 42, 32, 42]⟩ : ByteArray), true)) else (some ((⟨#[]⟩ : ByteArray), false)))))))))))))
set_option maxHeartbeats 8000000 in
set_option maxRecDepth 100000 in
theorem gronx_expression.calls (a0 : ByteArray) (r1 : ByteArray) (r2 : Bool) (w : World) (h : gronx_expression.f a0 = some (r1, r2)) :
    Calls Tryz.prog 74 #[.string a0] w fun e w' => e = .returned (.tuple #[.string r1, .bool r2]) ∧ Drawn0 w w' := by
  have H : (if a0.toList = ([64, 121, 101, 97, 114, 108, 121] : List UInt8) then (some ((⟨#[48, 32, 48, 32, 49, 32, 49, 32, 42]⟩ : ByteArray), true)) else (if a0.toList = ([64, 97, 110, 110, 117, 97, 108, 108, 121] : List UInt8) then (some ((⟨#[48, 32, 48, 32, 49, 32, 49, 32, 42]⟩ : ByteArray), true)) else (if a0.toList = ([64, 109, 111, 110, 116, 104, 108, 121] : List UInt8) then (some ((⟨#[48, 32, 48, 32, 49, 32, 42, 32, 42]⟩ : ByteArray), true)) else (if a0.toList = ([64, 119, 101, 101, 107, 108, 121] : List UInt8) then (some ((⟨#[48, 32, 48, 32, 42, 32, 42, 32, 48]⟩ : ByteArray), true)) else (if a0.toList = ([64, 100, 97, 105, 108, 121] : List UInt8) then (some ((⟨#[48, 32, 48, 32, 42, 32, 42, 32, 42]⟩ : ByteArray), true)) else (if a0.toList = ([64, 104, 111, 117, 114, 108, 121] : List UInt8) then (some ((⟨#[48, 32, 42, 32, 42, 32, 42, 32, 42]⟩ : ByteArray), true)) else (if a0.toList = ([64, 97, 108, 119, 97, 121, 115] : List UInt8) then (some ((⟨#[42, 32, 42, 32, 42, 32, 42, 32, 42]⟩ : ByteArray), true)) else (if a0.toList = ([64, 53, 109, 105, 110, 117, 116, 101, 115] : List UInt8) then (some ((⟨#[42, 47, 53, 32, 42, 32, 42, 32, 42, 32, 42]⟩ : ByteArray), true)) else (if a0.toList = ([64, 49, 48, 109, 105, 110, 117, 116, 101, 115] : List UInt8) then (some ((⟨#[42, 47, 49, 48, 32, 42, 32, 42, 32, 42, 32, 42]⟩ : ByteArray), true)) else (if a0.toList = ([64, 49, 53, 109, 105, 110, 117, 116, 101, 115] : List UInt8) then (some ((⟨#[42, 47, 49, 53, 32, 42, 32, 42, 32, 42, 32, 42]⟩ : ByteArray), true)) else (if a0.toList = ([64, 51, 48, 109, 105, 110, 117, 116, 101, 115] : List UInt8) then (some ((⟨#[48, 44, 51, 48, 32, 42, 32, 42, 32, 42, 32, 42]⟩ : ByteArray), true)) else (if a0.toList = ([64, 101, 118, 101, 114, 121, 115, 101, 99, 111, 110, 100] : List UInt8) then (some ((⟨#[42, 32, 42, 32, 42, 32, 42, 32, 42, 32, 42]⟩ : ByteArray), true)) else (some ((⟨#[]⟩ : ByteArray), false)))))))))))))) = some (r1, r2) := h
  clear h
  by_cases c2 : a0.toList = ([64, 121, 101, 97, 114, 108, 121] : List UInt8)
  · rw [if_pos c2] at H
    have c2b0 : (a0.toList == ([64, 121, 101, 97, 114, 108, 121] : List UInt8)) = true := beq_iff_eq.mpr c2
    have c2b1 : (a0.toList != ([64, 121, 101, 97, 114, 108, 121] : List UInt8)) = false := bne_eq_false_iff_eq.mpr c2
    clear c2
    simp only [Option.some.injEq, Prod.mk.injEq] at H
    obtain ⟨rfl, rfl⟩ := H
    go_enter Tryz.func74, Tryz.ntmps74
    go_wp2
    go_ret2
    exact ⟨by first | rfl | (simp; done) | (simp [*]; done), by repeat (first | exact Drawn0.refl _ | apply Drawn0.step)⟩
  · rw [if_neg c2] at H
    have c2b0 : (a0.toList == ([64, 121, 101, 97, 114, 108, 121] : List UInt8)) = false := beq_eq_false_iff_ne.mpr c2
    have c2b1 : (a0.toList != ([64, 121, 101, 97, 114, 108, 121] : List UInt8)) = true := bne_iff_ne.mpr c2
    by_cases c3 : a0.toList = ([64, 97, 110, 110, 117, 97, 108, 108, 121] : List UInt8)
    · rw [if_pos c3] at H
      have c3b0 : (a0.toList == ([64, 97, 110, 110, 117, 97, 108, 108, 121] : List UInt8)) = true := beq_iff_eq.mpr c3
      have c3b1 : (a0.toList != ([64, 97, 110, 110, 117, 97, 108, 108, 121] : List UInt8)) = false := bne_eq_false_iff_eq.mpr c3
      clear c3
      simp only [Option.some.injEq, Prod.mk.injEq] at H
      obtain ⟨rfl, rfl⟩ := H
      go_enter Tryz.func74, Tryz.ntmps74
      go_wp2
      go_ret2
      exact ⟨by first | rfl | (simp; done) | (simp [*]; done), by repeat (first | exact Drawn0.refl _ | apply Drawn0.step)⟩
    · rw [if_neg c3] at H
      have c3b0 : (a0.toList == ([64, 97, 110, 110, 117, 97, 108, 108, 121] : List UInt8)) = false := beq_eq_false_iff_ne.mpr c3
      have c3b1 : (a0.toList != ([64, 97, 110, 110, 117, 97, 108, 108, 121] : List UInt8)) = true := bne_iff_ne.mpr c3
      by_cases c4 : a0.toList = ([64, 109, 111, 110, 116, 104, 108, 121] : List UInt8)
      · rw [if_pos c4] at H
        have c4b0 : (a0.toList == ([64, 109, 111, 110, 116, 104, 108, 121] : List UInt8)) = true := beq_iff_eq.mpr c4
        have c4b1 : (a0.toList != ([64, 109, 111, 110, 116, 104, 108, 121] : List UInt8)) = false := bne_eq_false_iff_eq.mpr c4
        clear c4
        simp only [Option.some.injEq, Prod.mk.injEq] at H
        obtain ⟨rfl, rfl⟩ := H
        go_enter Tryz.func74, Tryz.ntmps74
        go_wp2
        go_ret2
        exact ⟨by first | rfl | (simp; done) | (simp [*]; done), by repeat (first | exact Drawn0.refl _ | apply Drawn0.step)⟩
      · rw [if_neg c4] at H
        have c4b0 : (a0.toList == ([64, 109, 111, 110, 116, 104, 108, 121] : List UInt8)) = false := beq_eq_false_iff_ne.mpr c4
        have c4b1 : (a0.toList != ([64, 109, 111, 110, 116, 104, 108, 121] : List UInt8)) = true := bne_iff_ne.mpr c4
        by_cases c5 : a0.toList = ([64, 119, 101, 101, 107, 108, 121] : List UInt8)
        · rw [if_pos c5] at H
          have c5b0 : (a0.toList == ([64, 119, 101, 101, 107, 108, 121] : List UInt8)) = true := beq_iff_eq.mpr c5
          have c5b1 : (a0.toList != ([64, 119, 101, 101, 107, 108, 121] : List UInt8)) = false := bne_eq_false_iff_eq.mpr c5
          clear c5
          simp only [Option.some.injEq, Prod.mk.injEq] at H
          obtain ⟨rfl, rfl⟩ := H
          go_enter Tryz.func74, Tryz.ntmps74
          go_wp2
          go_ret2
          exact ⟨by first | rfl | (simp; done) | (simp [*]; done), by repeat (first | exact Drawn0.refl _ | apply Drawn0.step)⟩
        · rw [if_neg c5] at H
          have c5b0 : (a0.toList == ([64, 119, 101, 101, 107, 108, 121] : List UInt8)) = false := beq_eq_false_iff_ne.mpr c5
          have c5b1 : (a0.toList != ([64, 119, 101, 101, 107, 108, 121] : List UInt8)) = true := bne_iff_ne.mpr c5
          by_cases c6 : a0.toList = ([64, 100, 97, 105, 108, 121] : List UInt8)
          · rw [if_pos c6] at H
            have c6b0 : (a0.toList == ([64, 100, 97, 105, 108, 121] : List UInt8)) = true := beq_iff_eq.mpr c6
            have c6b1 : (a0.toList != ([64, 100, 97, 105, 108, 121] : List UInt8)) = false := bne_eq_false_iff_eq.mpr c6
            clear c6
            simp only [Option.some.injEq, Prod.mk.injEq] at H
            obtain ⟨rfl, rfl⟩ := H
            go_enter Tryz.func74, Tryz.ntmps74
            go_wp2
            go_ret2
            exact ⟨by first | rfl | (simp; done) | (simp [*]; done), by repeat (first | exact Drawn0.refl _ | apply Drawn0.step)⟩
          · rw [if_neg c6] at H
            have c6b0 : (a0.toList == ([64, 100, 97, 105, 108, 121] : List UInt8)) = false := beq_eq_false_iff_ne.mpr c6
            have c6b1 : (a0.toList != ([64, 100, 97, 105, 108, 121] : List UInt8)) = true := bne_iff_ne.mpr c6
            by_cases c7 : a0.toList = ([64, 104, 111, 117, 114, 108, 121] : List UInt8)
            · rw [if_pos c7] at H
              have c7b0 : (a0.toList == ([64, 104, 111, 117, 114, 108, 121] : List UInt8)) = true := beq_iff_eq.mpr c7
              have c7b1 : (a0.toList != ([64, 104, 111, 117, 114, 108, 121] : List UInt8)) = false := bne_eq_false_iff_eq.mpr c7
              clear c7
              simp only [Option.some.injEq, Prod.mk.injEq] at H
              obtain ⟨rfl, rfl⟩ := H
              go_enter Tryz.func74, Tryz.ntmps74
              go_wp2
              go_ret2
              exact ⟨by first | rfl | (simp; done) | (simp [*]; done), by repeat (first | exact Drawn0.refl _ | apply Drawn0.step)⟩
            · rw [if_neg c7] at H
              have c7b0 : (a0.toList == ([64, 104, 111, 117, 114, 108, 121] : List UInt8)) = false := beq_eq_false_iff_ne.mpr c7
              have c7b1 : (a0.toList != ([64, 104, 111, 117, 114, 108, 121] : List UInt8)) = true := bne_iff_ne.mpr c7
              by_cases c8 : a0.toList = ([64, 97, 108, 119, 97, 121, 115] : List UInt8)
              · rw [if_pos c8] at H
                have c8b0 : (a0.toList == ([64, 97, 108, 119, 97, 121, 115] : List UInt8)) = true := beq_iff_eq.mpr c8
                have c8b1 : (a0.toList != ([64, 97, 108, 119, 97, 121, 115] : List UInt8)) = false := bne_eq_false_iff_eq.mpr c8
                clear c8
                simp only [Option.some.injEq, Prod.mk.injEq] at H
                obtain ⟨rfl, rfl⟩ := H
                go_enter Tryz.func74, Tryz.ntmps74
                go_wp2
                go_ret2
                exact ⟨by first | rfl | (simp; done) | (simp [*]; done), by repeat (first | exact Drawn0.refl _ | apply Drawn0.step)⟩
              · rw [if_neg c8] at H
                have c8b0 : (a0.toList == ([64, 97, 108, 119, 97, 121, 115] : List UInt8)) = false := beq_eq_false_iff_ne.mpr c8
                have c8b1 : (a0.toList != ([64, 97, 108, 119, 97, 121, 115] : List UInt8)) = true := bne_iff_ne.mpr c8
                by_cases c9 : a0.toList = ([64, 53, 109, 105, 110, 117, 116, 101, 115] : List UInt8)
                · rw [if_pos c9] at H
                  have c9b0 : (a0.toList == ([64, 53, 109, 105, 110, 117, 116, 101, 115] : List UInt8)) = true := beq_iff_eq.mpr c9
                  have c9b1 : (a0.toList != ([64, 53, 109, 105, 110, 117, 116, 101, 115] : List UInt8)) = false := bne_eq_false_iff_eq.mpr c9
                  clear c9
                  simp only [Option.some.injEq, Prod.mk.injEq] at H
                  obtain ⟨rfl, rfl⟩ := H
                  go_enter Tryz.func74, Tryz.ntmps74
                  go_wp2
                  go_ret2
                  exact ⟨by first | rfl | (simp; done) | (simp [*]; done), by repeat (first | exact Drawn0.refl _ | apply Drawn0.step)⟩
                · rw [if_neg c9] at H
                  have c9b0 : (a0.toList == ([64, 53, 109, 105, 110, 117, 116, 101, 115] : List UInt8)) = false := beq_eq_false_iff_ne.mpr c9
                  have c9b1 : (a0.toList != ([64, 53, 109, 105, 110, 117, 116, 101, 115] : List UInt8)) = true := bne_iff_ne.mpr c9
                  by_cases c10 : a0.toList = ([64, 49, 48, 109, 105, 110, 117, 116, 101, 115] : List UInt8)
                  · rw [if_pos c10] at H
                    have c10b0 : (a0.toList == ([64, 49, 48, 109, 105, 110, 117, 116, 101, 115] : List UInt8)) = true := beq_iff_eq.mpr c10
                    have c10b1 : (a0.toList != ([64, 49, 48, 109, 105, 110, 117, 116, 101, 115] : List UInt8)) = false := bne_eq_false_iff_eq.mpr c10
                    clear c10
                    simp only [Option.some.injEq, Prod.mk.injEq] at H
                    obtain ⟨rfl, rfl⟩ := H
                    go_enter Tryz.func74, Tryz.ntmps74
                    go_wp2
                    go_ret2
                    exact ⟨by first | rfl | (simp; done) | (simp [*]; done), by repeat (first | exact Drawn0.refl _ | apply Drawn0.step)⟩
                  · rw [if_neg c10] at H
                    have c10b0 : (a0.toList == ([64, 49, 48, 109, 105, 110, 117, 116, 101, 115] : List UInt8)) = false := beq_eq_false_iff_ne.mpr c10
                    have c10b1 : (a0.toList != ([64, 49, 48, 109, 105, 110, 117, 116, 101, 115] : List UInt8)) = true := bne_iff_ne.mpr c10
                    by_cases c11 : a0.toList = ([64, 49, 53, 109, 105, 110, 117, 116, 101, 115] : List UInt8)
                    · rw [if_pos c11] at H
                      have c11b0 : (a0.toList == ([64, 49, 53, 109, 105, 110, 117, 116, 101, 115] : List UInt8)) = true := beq_iff_eq.mpr c11
                      have c11b1 : (a0.toList != ([64, 49, 53, 109, 105, 110, 117, 116, 101, 115] : List UInt8)) = false := bne_eq_false_iff_eq.mpr c11
                      clear c11
                      simp only [Option.some.injEq, Prod.mk.injEq] at H
                      obtain ⟨rfl, rfl⟩ := H
                      go_enter Tryz.func74, Tryz.ntmps74
                      go_wp2
                      go_ret2
                      exact ⟨by first | rfl | (simp; done) | (simp [*]; done), by repeat (first | exact Drawn0.refl _ | apply Drawn0.step)⟩
                    · rw [if_neg c11] at H
                      have c11b0 : (a0.toList == ([64, 49, 53, 109, 105, 110, 117, 116, 101, 115] : List UInt8)) = false := beq_eq_false_iff_ne.mpr c11
                      have c11b1 : (a0.toList != ([64, 49, 53, 109, 105, 110, 117, 116, 101, 115] : List UInt8)) = true := bne_iff_ne.mpr c11
                      by_cases c12 : a0.toList = ([64, 51, 48, 109, 105, 110, 117, 116, 101, 115] : List UInt8)
                      · rw [if_pos c12] at H
                        have c12b0 : (a0.toList == ([64, 51, 48, 109, 105, 110, 117, 116, 101, 115] : List UInt8)) = true := beq_iff_eq.mpr c12
                        have c12b1 : (a0.toList != ([64, 51, 48, 109, 105, 110, 117, 116, 101, 115] : List UInt8)) = false := bne_eq_false_iff_eq.mpr c12
                        clear c12
                        simp only [Option.some.injEq, Prod.mk.injEq] at H
                        obtain ⟨rfl, rfl⟩ := H
                        go_enter Tryz.func74, Tryz.ntmps74
                        go_wp2
                        go_ret2
                        exact ⟨by first | rfl | (simp; done) | (simp [*]; done), by repeat (first | exact Drawn0.refl _ | apply Drawn0.step)⟩
                      · rw [if_neg c12] at H
                        have c12b0 : (a0.toList == ([64, 51, 48, 109, 105, 110, 117, 116, 101, 115] : List UInt8)) = false := beq_eq_false_iff_ne.mpr c12
                        have c12b1 : (a0.toList != ([64, 51, 48, 109, 105, 110, 117, 116, 101, 115] : List UInt8)) = true := bne_iff_ne.mpr c12
                        by_cases c13 : a0.toList = ([64, 101, 118, 101, 114, 121, 115, 101, 99, 111, 110, 100] : List UInt8)
                        · rw [if_pos c13] at H
                          have c13b0 : (a0.toList == ([64, 101, 118, 101, 114, 121, 115, 101, 99, 111, 110, 100] : List UInt8)) = true := beq_iff_eq.mpr c13
                          have c13b1 : (a0.toList != ([64, 101, 118, 101, 114, 121, 115, 101, 99, 111, 110, 100] : List UInt8)) = false := bne_eq_false_iff_eq.mpr c13
                          clear c13
                          simp only [Option.some.injEq, Prod.mk.injEq] at H
                          obtain ⟨rfl, rfl⟩ := H
                          go_enter Tryz.func74, Tryz.ntmps74
                          go_wp2
                          go_ret2
                          exact ⟨by first | rfl | (simp; done) | (simp [*]; done), by repeat (first | exact Drawn0.refl _ | apply Drawn0.step)⟩
                        · rw [if_neg c13] at H
                          have c13b0 : (a0.toList == ([64, 101, 118, 101, 114, 121, 115, 101, 99, 111, 110, 100] : List UInt8)) = false := beq_eq_false_iff_ne.mpr c13
                          have c13b1 : (a0.toList != ([64, 101, 118, 101, 114, 121, 115, 101, 99, 111, 110, 100] : List UInt8)) = true := bne_iff_ne.mpr c13
                          simp only [Option.some.injEq, Prod.mk.injEq] at H
                          obtain ⟨rfl, rfl⟩ := H
                          go_enter Tryz.func74, Tryz.ntmps74
                          go_wp2
                          go_ret2
                          exact ⟨by first | rfl | (simp; done) | (simp [*]; done), by repeat (first | exact Drawn0.refl _ | apply Drawn0.step)⟩
end Go.Proofs.YtkhgeonlohafgaaGreatDoor.Core
namespace Go.Proofs.YtkhgeonlohafgaaGreatDoor.Core
open Go.RowKit Go.Proofs.YtkhgeonlohafgaaGreatDoorW.PrintWords Go.Proofs.YtkhgeonlohafgaaGreatDoorW.PrintLast Go.Proofs.YtkhgeonlohafgaaGreatDoorW.PrintMore
attribute [local go_sem] max2_int min2_int max_two min_two max_three min_three max_four min_four   -- for this text's walks alone
set_option linter.unusedVariables false
set_option linter.unusedSimpArgs false
mutual
def gronx_zzSpaces.l0 : Nat → ByteArray → List Int → Bool → Int → Option (ByteArray)
  | 0, _, _, _, _ => none
  | k + 1, x0, x3, x4, x5 => if x5 < (x0.size : Int) then (if 0 ≤ x5 then (if (bt x0 x5) = 32 then (gronx_zzSpaces.j1 k x0 x3 x4 x5 ((bt x0 x5) == 32)) else (if (bt x0 x5) = 9 then (gronx_zzSpaces.j1 k x0 x3 x4 x5 ((bt x0 x5) == 9)) else (if (bt x0 x5) = 10 then (gronx_zzSpaces.j1 k x0 x3 x4 x5 ((bt x0 x5) == 10)) else (if (bt x0 x5) = 12 then (gronx_zzSpaces.j1 k x0 x3 x4 x5 ((bt x0 x5) == 12)) else (gronx_zzSpaces.j1 k x0 x3 x4 x5 ((bt x0 x5) == 13)))))) else (none)) else (some (strOfNums x3))
def gronx_zzSpaces.j1 : Nat → ByteArray → List Int → Bool → Int → Bool → Option (ByteArray)
  | 0, _, _, _, _, _ => none
  | k + 1, x0, x3, x4, x5, x21 => if x21 = true then (if x4 = true then (gronx_zzSpaces.l0 k x0 x3 true (wrap64 (x5 + 1))) else (if x3.length < 140737488355328 then (gronx_zzSpaces.l0 k x0 (x3 ++ [32]) true (wrap64 (x5 + 1))) else (none))) else (if 0 ≤ x5 then (if x5 < (x0.size : Int) then (if x3.length < 140737488355328 then (gronx_zzSpaces.l0 k x0 (x3 ++ [bt x0 x5]) false (wrap64 (x5 + 1))) else (none)) else (none)) else (none))
end
def gronx_zzSpaces.f (k : Nat) (a0 : ByteArray) : Option (ByteArray) := gronx_zzSpaces.l0 k a0 ([] : List Int) false 0
set_option maxHeartbeats 8000000 in
set_option maxRecDepth 100000 in
theorem gronx_zzSpaces.calls (k : Nat) (a0 : ByteArray) (r : ByteArray) (w : World) (h : gronx_zzSpaces.f k a0 = some r) :
    Calls Tryz.prog 76 #[.string a0] w fun e w' => e = .returned (.string r) ∧ Below w.heap.size w w' := by
  have HB := Aside0.mk (Below.refl w.heap.size w)
  have H : (gronx_zzSpaces.l0 k a0 ([] : List Int) false 0) = some r := h
  clear h
  have H' := Aside0.mk H
  clear H
  go_enter Tryz.func76, Tryz.ntmps76
  go_wp2
  go_loopg [3, 4, 5] k (fun kq v3 v4 v5 w' => ∃ (x3_1 : List Int) (x4_1 : Bool) (x5_1 : Int), v4 = .bool x4_1 ∧ v5 = .int .i64 x5_1 ∧ Aside0 (gronx_zzSpaces.l0 kq a0 x3_1 x4_1 x5_1 = some r) ∧ Aside0 (kq ≤ k) ∧ Aside0 (Kd.R (Kd.int .u8) 5 w' w.heap.size (fun _ => True) v3 x3_1) ∧ Aside0 (Below w.heap.size w w'))
  case atStart => exact ⟨(([] : List Int)), (false), (0), (by first | rfl | (simp; done) | (simp [*]; done)), (by first | rfl | (simp; done) | (simp [*]; done)), H', ⟨Nat.le_refl _⟩, ⟨by first | exact Kd.R_nil _ _ _ _ _ | exact Kd.N_nil _ _ _ _ _ | exact Kd.V_nil _ _ _ _ _ | exact Kd.Q_nil _ _ _ _ _ | exact Kd.S_nil _ _ _ _ _⟩, ⟨by repeat (first | (with_reducible first | exact HB.out | apply below_alloc | apply pw_below_drewN | apply below_drew1) | exact HB.out)⟩⟩
  case round =>
    clear H'
    obtain ⟨x3_1, x4_1, x5_1, rfl, rfl, HA, HK1, HO_3, HB⟩ := hrel
    cases gk with
    | zero => exact absurd HA.out (by simp [gronx_zzSpaces.l0])
    | succ k1 =>
      have H := HA.out
      clear HA
      simp only [gronx_zzSpaces.l0] at H
      by_cases c2 : x5_1 < (a0.size : Int)
      · rw [if_pos c2] at H
        have c2b0 : decide (x5_1 < (a0.size : Int)) = true := decide_eq_true c2
        clear c2
        by_cases c3 : 0 ≤ x5_1
        · rw [if_pos c3] at H
          have c3b0 : decide (0 ≤ x5_1) = true := decide_eq_true c3
          clear c3
          have HC5 := Aside0.mk H
          clear H
          have p4 : 0 ≤ (x5_1 : Int) := of_decide_eq_true (by first | (with_reducible assumption) | assumption)
          have q4 : x5_1 < (a0.size : Int) := of_decide_eq_true (by first | (with_reducible assumption) | assumption)
          have hx4 := bt_at a0 x5_1
          replace p4 := eq_true p4
          replace q4 := eq_true q4
          go_upto_if 21 with (fail)
          go_cut [21] (fun v21 wc => ∃ (kq : Nat) (x21_4 : Bool), v21 = .bool x21_4 ∧ Aside0 (gronx_zzSpaces.j1 kq a0 x3_1 x4_1 x5_1 x21_4 = some r) ∧ Aside0 (kq ≤ k1) ∧ Aside0 (Kd.R (Kd.int .u8) 5 wc w.heap.size (fun _ => True) u3 x3_1) ∧ Aside0 (Below w.heap.size w wc))
          case first =>
            have H := HC5.out
            clear HC5
            by_cases c6 : (bt a0 x5_1) = 32
            · rw [if_pos c6] at H
              have c6b0 : ((bt a0 x5_1) == 32) = true := beq_iff_eq.mpr c6
              have c6b1 : ((bt a0 x5_1) != 32) = false := bne_eq_false_iff_eq.mpr c6
              clear c6
              (first | rw [c6b0] | (simp only [i64_w, i32_w]; rw [c6b0]) | skip)
              have H' := Aside0.mk H
              clear H
              go_wp2
              go_meet
              case rel => exact ⟨_, (((bt a0 x5_1) == 32)), (by first | rfl | (simp; done) | (simp [*]; done)), H', ⟨by have := HK1.out; first | omega | exact Nat.le_refl _⟩, ⟨by (with_reducible repeat (first | apply Kd.R_alloc | apply Kd.R_drewN | apply Kd.R_drew)); exact HO_3.out⟩, ⟨by repeat (first | (with_reducible first | exact HB.out | apply below_alloc | apply pw_below_drewN | apply below_drew1) | exact HB.out)⟩⟩
            · rw [if_neg c6] at H
              have c6b0 : ((bt a0 x5_1) == 32) = false := beq_eq_false_iff_ne.mpr c6
              have c6b1 : ((bt a0 x5_1) != 32) = true := bne_iff_ne.mpr c6
              (first | rw [c6b0] | (simp only [i64_w, i32_w]; rw [c6b0]) | skip)
              by_cases c7 : (bt a0 x5_1) = 9
              · rw [if_pos c7] at H
                have c7b0 : ((bt a0 x5_1) == 9) = true := beq_iff_eq.mpr c7
                have c7b1 : ((bt a0 x5_1) != 9) = false := bne_eq_false_iff_eq.mpr c7
                clear c7
                have H' := Aside0.mk H
                clear H
                go_wp2
                go_meet
                case rel => exact ⟨_, (((bt a0 x5_1) == 9)), (by first | rfl | (simp; done) | (simp [*]; done)), H', ⟨by have := HK1.out; first | omega | exact Nat.le_refl _⟩, ⟨by (with_reducible repeat (first | apply Kd.R_alloc | apply Kd.R_drewN | apply Kd.R_drew)); exact HO_3.out⟩, ⟨by repeat (first | (with_reducible first | exact HB.out | apply below_alloc | apply pw_below_drewN | apply below_drew1) | exact HB.out)⟩⟩
              · rw [if_neg c7] at H
                have c7b0 : ((bt a0 x5_1) == 9) = false := beq_eq_false_iff_ne.mpr c7
                have c7b1 : ((bt a0 x5_1) != 9) = true := bne_iff_ne.mpr c7
                by_cases c8 : (bt a0 x5_1) = 10
                · rw [if_pos c8] at H
                  have c8b0 : ((bt a0 x5_1) == 10) = true := beq_iff_eq.mpr c8
                  have c8b1 : ((bt a0 x5_1) != 10) = false := bne_eq_false_iff_eq.mpr c8
                  clear c8
                  have H' := Aside0.mk H
                  clear H
                  go_wp2
                  go_meet
                  case rel => exact ⟨_, (((bt a0 x5_1) == 10)), (by first | rfl | (simp; done) | (simp [*]; done)), H', ⟨by have := HK1.out; first | omega | exact Nat.le_refl _⟩, ⟨by (with_reducible repeat (first | apply Kd.R_alloc | apply Kd.R_drewN | apply Kd.R_drew)); exact HO_3.out⟩, ⟨by repeat (first | (with_reducible first | exact HB.out | apply below_alloc | apply pw_below_drewN | apply below_drew1) | exact HB.out)⟩⟩
                · rw [if_neg c8] at H
                  have c8b0 : ((bt a0 x5_1) == 10) = false := beq_eq_false_iff_ne.mpr c8
                  have c8b1 : ((bt a0 x5_1) != 10) = true := bne_iff_ne.mpr c8
                  by_cases c9 : (bt a0 x5_1) = 12
                  · rw [if_pos c9] at H
                    have c9b0 : ((bt a0 x5_1) == 12) = true := beq_iff_eq.mpr c9
                    have c9b1 : ((bt a0 x5_1) != 12) = false := bne_eq_false_iff_eq.mpr c9
                    clear c9
                    have H' := Aside0.mk H
                    clear H
                    go_wp2
                    go_meet
                    case rel => exact ⟨_, (((bt a0 x5_1) == 12)), (by first | rfl | (simp; done) | (simp [*]; done)), H', ⟨by have := HK1.out; first | omega | exact Nat.le_refl _⟩, ⟨by (with_reducible repeat (first | apply Kd.R_alloc | apply Kd.R_drewN | apply Kd.R_drew)); exact HO_3.out⟩, ⟨by repeat (first | (with_reducible first | exact HB.out | apply below_alloc | apply pw_below_drewN | apply below_drew1) | exact HB.out)⟩⟩
                  · rw [if_neg c9] at H
                    have c9b0 : ((bt a0 x5_1) == 12) = false := beq_eq_false_iff_ne.mpr c9
                    have c9b1 : ((bt a0 x5_1) != 12) = true := bne_iff_ne.mpr c9
                    have H' := Aside0.mk H
                    clear H
                    go_wp2
                    go_meet
                    case rel => exact ⟨_, (((bt a0 x5_1) == 13)), (by first | rfl | (simp; done) | (simp [*]; done)), H', ⟨by have := HK1.out; first | omega | exact Nat.le_refl _⟩, ⟨by (with_reducible repeat (first | apply Kd.R_alloc | apply Kd.R_drewN | apply Kd.R_drew)); exact HO_3.out⟩, ⟨by repeat (first | (with_reducible first | exact HB.out | apply below_alloc | apply pw_below_drewN | apply below_drew1) | exact HB.out)⟩⟩
          case rest =>
            clear HC5
            try clear c2
            try clear c2b0
            try clear p2
            try clear c3
            try clear c3b0
            try clear p4
            try clear q4
            try clear hx4
            try clear c6
            try clear c6b0
            try clear c6b1
            try clear c7
            try clear c7b0
            try clear c7b1
            try clear c8
            try clear c8b0
            try clear c8b1
            try clear c9
            try clear c9b0
            try clear c9b1
            try clear p4
            try clear q4
            obtain ⟨kq, x21_4, rfl, HA, HJ4, HO_3, HB⟩ := hcut
            cases kq with
            | zero => exact absurd HA.out (by simp [gronx_zzSpaces.j1])
            | succ kj4 =>
              have H := HA.out
              clear HA
              simp only [gronx_zzSpaces.j1] at H
              by_cases c10 : x21_4 = true
              · subst c10
                have H1 : (if x4_1 = true then (gronx_zzSpaces.l0 kj4 a0 x3_1 true (wrap64 (x5_1 + 1))) else (if x3_1.length < 140737488355328 then (gronx_zzSpaces.l0 kj4 a0 (x3_1 ++ [32]) true (wrap64 (x5_1 + 1))) else (none))) = some r := by rw [if_pos rfl] at H; exact H
                clear H
                have H := H1
                clear H1
                by_cases c11 : x4_1 = true
                · subst c11
                  have H1 : (gronx_zzSpaces.l0 kj4 a0 x3_1 true (wrap64 (x5_1 + 1))) = some r := by rw [if_pos rfl] at H; exact H
                  clear H
                  have H := H1
                  clear H1
                  have H' := Aside0.mk H
                  clear H
                  go_wp2
                  go_roundg kj4
                  case measure => have := HK1.out; have := HJ4.out; omega
                  case rel => exact ⟨(x3_1), (true), (wrap64 (x5_1 + 1)), (by first | rfl | (simp; done) | (simp [*]; done)), (by first | rfl | (simp; done) | (simp [*]; done)), H', ⟨by have := HK1.out; have := HJ4.out; omega⟩, ⟨by (with_reducible repeat (first | apply Kd.R_alloc | apply Kd.R_drewN | apply Kd.R_drew)); exact HO_3.out⟩, ⟨by repeat (first | (with_reducible first | exact HB.out | apply below_alloc | apply pw_below_drewN | apply below_drew1) | exact HB.out)⟩⟩
                · replace c11 := Bool.eq_false_iff.mpr c11
                  subst c11
                  have H1 : (if x3_1.length < 140737488355328 then (gronx_zzSpaces.l0 kj4 a0 (x3_1 ++ [32]) true (wrap64 (x5_1 + 1))) else (none)) = some r := by rw [if_neg (show ¬ (false = true) by decide)] at H; exact H
                  clear H
                  have H := H1
                  clear H1
                  by_cases c12 : x3_1.length < 140737488355328
                  · rw [if_pos c12] at H
                    have LMc12 := Aside0.mk c12
                    clear c12
                    obtain ⟨y202, hy202⟩ : ∃ y_ : List Int, y_ = (x3_1 ++ [32]) := ⟨_, rfl⟩
                    replace H : (gronx_zzSpaces.l0 kj4 a0 y202 true (wrap64 (x5_1 + 1))) = some r := by first | (rw [hy202]; with_reducible exact H) | (have H2_ := (Option.bind_some _ _).symm.trans H; rw [hy202]; with_reducible exact H2_) | (have H2_ := (Option.bind_some _ _).symm.trans H; with_reducible exact H2_) | with_reducible exact H | (rw [hy202]; exact H) | exact H
                    have Ny202 := Aside0.mk hy202
                    clear hy202
                    have H' := Aside0.mk H
                    clear H
                    go_wp2_with (first | ((with_reducible refine gate_builtin (b := .append) (xs := #[.tmp 29, .tmp 30]) rfl ?_); at_builtin; refine Kd.R_append (Kd.int .u8) (w0 := w) w.heap.size rfl (.tmp 29) (.tmp 30) 78 5 (.int .u8 0) 1 rfl Tryz.underlying78 info5 rfl (by decide) (by omega) u3 x3_1 32 [.int .u8 32] (fun _ => True) (fun _ => False) rfl rfl ?aP (fun _ hk => hk.elim) ?aF ?aO ?aB ?aS ?aL ?_; (case aP => exact rfl); (case aB => exact (by repeat (first | (with_reducible first | exact HB.out | apply below_alloc | apply pw_below_drewN | apply below_drew1) | exact HB.out))); (case aF => exact (fun _ _ => trivial)); (case aO => exact (by (with_reducible repeat (first | apply Kd.R_alloc | apply Kd.R_drewN | apply Kd.R_drew)); exact HO_3.out)); (case aS => exact (below_size (by repeat (first | (with_reducible first | exact HB.out | apply below_alloc | apply pw_below_drewN | apply below_drew1) | exact HB.out)))); (case aL => have := LMc12.out; omega); intro v203 w13 ho hb hg hat; rw [← Ny202.out] at ho; have n0_ := Aside0.mk (hb); have n1_ := Aside0.mk (ho); clear HB; clear HO_3; have HB := n0_; have HO204 := n1_; clear n0_ n1_; clear ho hb hg hat))
                    go_roundg kj4
                    case measure => have := HK1.out; have := HJ4.out; omega
                    case rel => exact ⟨(y202), (true), (wrap64 (x5_1 + 1)), (by first | rfl | (simp; done) | (simp [*]; done)), (by first | rfl | (simp; done) | (simp [*]; done)), H', ⟨by have := HK1.out; have := HJ4.out; omega⟩, ⟨by (with_reducible repeat (first | apply Kd.R_alloc | apply Kd.R_drewN | apply Kd.R_drew)); exact HO204.out⟩, ⟨by repeat (first | (with_reducible first | exact HB.out | apply below_alloc | apply pw_below_drewN | apply below_drew1) | exact HB.out)⟩⟩
                  · rw [if_neg c12] at H
                    exact absurd H (by simp)
              · replace c10 := Bool.eq_false_iff.mpr c10
                subst c10
                have H1 : (if 0 ≤ x5_1 then (if x5_1 < (a0.size : Int) then (if x3_1.length < 140737488355328 then (gronx_zzSpaces.l0 kj4 a0 (x3_1 ++ [bt a0 x5_1]) false (wrap64 (x5_1 + 1))) else (none)) else (none)) else (none)) = some r := by rw [if_neg (show ¬ (false = true) by decide)] at H; exact H
                clear H
                have H := H1
                clear H1
                by_cases c14 : 0 ≤ x5_1
                · rw [if_pos c14] at H
                  have c14b0 : decide (0 ≤ x5_1) = true := decide_eq_true c14
                  clear c14
                  by_cases c15 : x5_1 < (a0.size : Int)
                  · rw [if_pos c15] at H
                    have c15b0 : decide (x5_1 < (a0.size : Int)) = true := decide_eq_true c15
                    clear c15
                    by_cases c17 : x3_1.length < 140737488355328
                    · rw [if_pos c17] at H
                      have LMc17 := Aside0.mk c17
                      clear c17
                      obtain ⟨y205, hy205⟩ : ∃ y_ : List Int, y_ = (x3_1 ++ [bt a0 x5_1]) := ⟨_, rfl⟩
                      replace H : (gronx_zzSpaces.l0 kj4 a0 y205 false (wrap64 (x5_1 + 1))) = some r := by first | (rw [hy205]; with_reducible exact H) | (have H2_ := (Option.bind_some _ _).symm.trans H; rw [hy205]; with_reducible exact H2_) | (have H2_ := (Option.bind_some _ _).symm.trans H; with_reducible exact H2_) | with_reducible exact H | (rw [hy205]; exact H) | exact H
                      have Ny205 := Aside0.mk hy205
                      clear hy205
                      have H' := Aside0.mk H
                      clear H
                      have p16 : 0 ≤ (x5_1 : Int) := of_decide_eq_true (by first | (with_reducible assumption) | assumption)
                      have q16 : x5_1 < (a0.size : Int) := of_decide_eq_true (by first | (with_reducible assumption) | assumption)
                      have hx16 := bt_at a0 x5_1
                      replace p16 := eq_true p16
                      replace q16 := eq_true q16
                      go_wp2_with (first | ((with_reducible refine gate_builtin (b := .append) (xs := #[.tmp 15, .tmp 19]) rfl ?_); at_builtin; refine Kd.R_append (Kd.int .u8) (w0 := w) w.heap.size rfl (.tmp 15) (.tmp 19) 78 5 (.int .u8 0) 1 rfl Tryz.underlying78 info5 rfl (by decide) (by omega) u3 x3_1 (bt a0 x5_1) [.int .u8 (bt a0 x5_1)] (fun _ => True) (fun _ => False) rfl rfl ?aP (fun _ hk => hk.elim) ?aF ?aO ?aB ?aS ?aL ?_; (case aP => exact rfl); (case aB => exact (by repeat (first | (with_reducible first | exact HB.out | apply below_alloc | apply pw_below_drewN | apply below_drew1) | exact HB.out))); (case aF => exact (fun _ _ => trivial)); (case aO => exact (by (with_reducible repeat (first | apply Kd.R_alloc | apply Kd.R_drewN | apply Kd.R_drew)); exact HO_3.out)); (case aS => exact (below_size (by repeat (first | (with_reducible first | exact HB.out | apply below_alloc | apply pw_below_drewN | apply below_drew1) | exact HB.out)))); (case aL => have := LMc17.out; omega); intro v206 w18 ho hb hg hat; rw [← Ny205.out] at ho; have n0_ := Aside0.mk (hb); have n1_ := Aside0.mk (ho); clear HB; clear HO_3; have HB := n0_; have HO207 := n1_; clear n0_ n1_; clear ho hb hg hat))
                      go_roundg kj4
                      case measure => have := HK1.out; have := HJ4.out; omega
                      case rel => exact ⟨(y205), (false), (wrap64 (x5_1 + 1)), (by first | rfl | (simp; done) | (simp [*]; done)), (by first | rfl | (simp; done) | (simp [*]; done)), H', ⟨by have := HK1.out; have := HJ4.out; omega⟩, ⟨by (with_reducible repeat (first | apply Kd.R_alloc | apply Kd.R_drewN | apply Kd.R_drew)); exact HO207.out⟩, ⟨by repeat (first | (with_reducible first | exact HB.out | apply below_alloc | apply pw_below_drewN | apply below_drew1) | exact HB.out)⟩⟩
                    · rw [if_neg c17] at H
                      exact absurd H (by simp)
                  · rw [if_neg c15] at H
                    exact absurd H (by simp)
                · rw [if_neg c14] at H
                  exact absurd H (by simp)
        · rw [if_neg c3] at H
          exact absurd H (by simp)
      · rw [if_neg c2] at H
        have c2b0 : decide (x5_1 < (a0.size : Int)) = false := decide_eq_false c2
        clear c2
        obtain rfl := Option.some.inj H
        have hcv19 := own_string (P := Tryz.prog) Tryz.underlying78 Tryz.underlying5 Tryz.underlying9 (Kd.own_of_R HO_3.out)
        go_wp2
        go_ret
        exact ⟨by first | rfl | (simp [errW_none, errW_some] <;> rfl) | (simp [*, errW_none, errW_some] <;> rfl), by repeat (first | (with_reducible first | exact HB.out | apply below_alloc | apply pw_below_drewN | apply below_drew1) | exact HB.out)⟩
end Go.Proofs.YtkhgeonlohafgaaGreatDoor.Core
namespace Go.Proofs.YtkhgeonlohafgaaGreatDoor.Core
open Go.RowKit Go.Proofs.YtkhgeonlohafgaaGreatDoorW.PrintWords Go.Proofs.YtkhgeonlohafgaaGreatDoorW.PrintLast Go.Proofs.YtkhgeonlohafgaaGreatDoorW.PrintMore
attribute [local go_sem] max2_int min2_int max_two min_two max_three min_three max_four min_four   -- for this text's walks alone
set_option linter.unusedVariables false
set_option linter.unusedSimpArgs false
def gronx_literal.f (a0 : ByteArray) : Option (ByteArray) := if a0.toList = ([83, 85, 78] : List UInt8) then (some (⟨#[48]⟩ : ByteArray)) else (if a0.toList = ([77, 79, 78] : List UInt8) then (some (⟨#[49]⟩ : ByteArray)) else (if a0.toList = ([84, 85, 69] : List UInt8) then (some (⟨#[50]⟩ : ByteArray)) else (if a0.toList = ([87, 69, 68] : List UInt8) then (some (⟨#[51]⟩ : ByteArray)) else (if a0.toList = ([84, 72, 85] : List UInt8) then (some (⟨#[52]⟩ : ByteArray)) else (if a0.toList = ([70, 82, 73] : List UInt8) then (some (⟨#[53]⟩ : ByteArray)) else (if a0.toList = ([83, 65, 84] : List UInt8) then (some (⟨#[54]⟩ : ByteArray)) else (if a0.toList = ([74, 65, 78] : List UInt8) then (some (⟨#[49]⟩ : ByteArray)) else (if a0.toList = ([70, 69, 66] : List UInt8) then (some (⟨#[50]⟩ : ByteArray)) else (if a0.toList = ([77, 65, 82] : List UInt8) then (some (⟨#[51]⟩ : ByteArray)) else (if a0.toList = ([65, 80, 82] : List UInt8) then (some (⟨#[52]⟩ : ByteArray)) else (if a0.toList = ([77, 65, 89] : List UInt8) then (some (⟨#[53]⟩ : ByteArray)) else (if a0.toList = ([74, 85, 78] : List UInt8) then (some (⟨#[54]⟩ : ByteArray)) else (if a0.toList = ([74, 85, 76] : List UInt8) then (some (⟨#[55]⟩ : ByteArray)) else (if a0.toList = ([65, 85, 71] : List UInt8) then (some (⟨#[56]⟩ : ByteArray)) else (if a0.toList = ([83, 69, 80] : List UInt8) then (some (⟨#[57]⟩ : ByteArray)) else (if a0.toList = ([79, 67, 84] : List UInt8) then (some (⟨#[49, 48]⟩ : ByteArray)) else (if a0.toList = ([78, 79, 86] : List UInt8) then (some (⟨#[49, 49]⟩ : ByteArray)) else (if a0.toList = ([68, 69, 67] : List UInt8) then (some (⟨#[49, 50]⟩ : ByteArray)) else (some (⟨#[]⟩ : ByteArray))))))))))))))))))))
set_option maxHeartbeats 8000000 in
set_option maxRecDepth 100000 in
theorem gronx_literal.calls (a0 : ByteArray) (r : ByteArray) (w : World) (h : gronx_literal.f a0 = some r) :
    Calls Tryz.prog 109 #[.string a0] w fun e w' => e = .returned (.string r) ∧ Drawn0 w w' := by
  have H : (if a0.toList = ([83, 85, 78] : List UInt8) then (some (⟨#[48]⟩ : ByteArray)) else (if a0.toList = ([77, 79, 78] : List UInt8) then (some (⟨#[49]⟩ : ByteArray)) else (if a0.toList = ([84, 85, 69] : List UInt8) then (some (⟨#[50]⟩ : ByteArray)) else (if a0.toList = ([87, 69, 68] : List UInt8) then (some (⟨#[51]⟩ : ByteArray)) else (if a0.toList = ([84, 72, 85] : List UInt8) then (some (⟨#[52]⟩ : ByteArray)) else (if a0.toList = ([70, 82, 73] : List UInt8) then (some (⟨#[53]⟩ : ByteArray)) else (if a0.toList = ([83, 65, 84] : List UInt8) then (some (⟨#[54]⟩ : ByteArray)) else (if a0.toList = ([74, 65, 78] : List UInt8) then (some (⟨#[49]⟩ : ByteArray)) else (if a0.toList = ([70, 69, 66] : List UInt8) then (some (⟨#[50]⟩ : ByteArray)) else (if a0.toList = ([77, 65, 82] : List UInt8) then (some (⟨#[51]⟩ : ByteArray)) else (if a0.toList = ([65, 80, 82] : List UInt8) then (some (⟨#[52]⟩ : ByteArray)) else (if a0.toList = ([77, 65, 89] : List UInt8) then (some (⟨#[53]⟩ : ByteArray)) else (if a0.toList = ([74, 85, 78] : List UInt8) then (some (⟨#[54]⟩ : ByteArray)) else (if a0.toList = ([74, 85, 76] : List UInt8) then (some (⟨#[55]⟩ : ByteArray)) else (if a0.toList = ([65, 85, 71] : List UInt8) then (some (⟨#[56]⟩ : ByteArray)) else (if a0.toList = ([83, 69, 80] : List UInt8) then (some (⟨#[57]⟩ : ByteArray)) else (if a0.toList = ([79, 67, 84] : List UInt8) then (some (⟨#[49, 48]⟩ : ByteArray)) else (if a0.toList = ([78, 79, 86] : List UInt8) then (some (⟨#[49, 49]⟩ : ByteArray)) else (if a0.toList = ([68, 69, 67] : List UInt8) then (some (⟨#[49, 50]⟩ : ByteArray)) else (some (⟨#[]⟩ : ByteArray))))))))))))))))))))) = some r := h
  clear h
  by_cases c2 : a0.toList = ([83, 85, 78] : List UInt8)
  · rw [if_pos c2] at H
    have c2b0 : (a0.toList == ([83, 85, 78] : List UInt8)) = true := beq_iff_eq.mpr c2
    have c2b1 : (a0.toList != ([83, 85, 78] : List UInt8)) = false := bne_eq_false_iff_eq.mpr c2
    clear c2
    obtain rfl := Option.some.inj H
    go_enter Tryz.func109, Tryz.ntmps109
    go_wp2
    go_ret
    exact ⟨by first | rfl | (simp; done) | (simp [*]; done), by repeat (first | exact Drawn0.refl _ | apply Drawn0.step)⟩
  · rw [if_neg c2] at H
    have c2b0 : (a0.toList == ([83, 85, 78] : List UInt8)) = false := beq_eq_false_iff_ne.mpr c2
    have c2b1 : (a0.toList != ([83, 85, 78] : List UInt8)) = true := bne_iff_ne.mpr c2
    by_cases c3 : a0.toList = ([77, 79, 78] : List UInt8)
    · rw [if_pos c3] at H
      have c3b0 : (a0.toList == ([77, 79, 78] : List UInt8)) = true := beq_iff_eq.mpr c3
      have c3b1 : (a0.toList != ([77, 79, 78] : List UInt8)) = false := bne_eq_false_iff_eq.mpr c3
      clear c3
      obtain rfl := Option.some.inj H
      go_enter Tryz.func109, Tryz.ntmps109
      go_wp2
      go_ret
      exact ⟨by first | rfl | (simp; done) | (simp [*]; done), by repeat (first | exact Drawn0.refl _ | apply Drawn0.step)⟩
    · rw [if_neg c3] at H
      have c3b0 : (a0.toList == ([77, 79, 78] : List UInt8)) = false := beq_eq_false_iff_ne.mpr c3
      have c3b1 : (a0.toList != ([77, 79, 78] : List UInt8)) = true := bne_iff_ne.mpr c3
      by_cases c4 : a0.toList = ([84, 85, 69] : List UInt8)
      · rw [if_pos c4] at H
        have c4b0 : (a0.toList == ([84, 85, 69] : List UInt8)) = true := beq_iff_eq.mpr c4
        have c4b1 : (a0.toList != ([84, 85, 69] : List UInt8)) = false := bne_eq_false_iff_eq.mpr c4
        clear c4
        obtain rfl := Option.some.inj H
        go_enter Tryz.func109, Tryz.ntmps109
        go_wp2
        go_ret
        exact ⟨by first | rfl | (simp; done) | (simp [*]; done), by repeat (first | exact Drawn0.refl _ | apply Drawn0.step)⟩
      · rw [if_neg c4] at H
        have c4b0 : (a0.toList == ([84, 85, 69] : List UInt8)) = false := beq_eq_false_iff_ne.mpr c4
        have c4b1 : (a0.toList != ([84, 85, 69] : List UInt8)) = true := bne_iff_ne.mpr c4
        by_cases c5 : a0.toList = ([87, 69, 68] : List UInt8)
        · rw [if_pos c5] at H
          have c5b0 : (a0.toList == ([87, 69, 68] : List UInt8)) = true := beq_iff_eq.mpr c5
          have c5b1 : (a0.toList != ([87, 69, 68] : List UInt8)) = false := bne_eq_false_iff_eq.mpr c5
          clear c5
          obtain rfl := Option.some.inj H
          go_enter Tryz.func109, Tryz.ntmps109
          go_wp2
          go_ret
          exact ⟨by first | rfl | (simp; done) | (simp [*]; done), by repeat (first | exact Drawn0.refl _ | apply Drawn0.step)⟩
        · rw [if_neg c5] at H
          have c5b0 : (a0.toList == ([87, 69, 68] : List UInt8)) = false := beq_eq_false_iff_ne.mpr c5
          have c5b1 : (a0.toList != ([87, 69, 68] : List UInt8)) = true := bne_iff_ne.mpr c5
          by_cases c6 : a0.toList = ([84, 72, 85] : List UInt8)
          · rw [if_pos c6] at H
            have c6b0 : (a0.toList == ([84, 72, 85] : List UInt8)) = true := beq_iff_eq.mpr c6
            have c6b1 : (a0.toList != ([84, 72, 85] : List UInt8)) = false := bne_eq_false_iff_eq.mpr c6
            clear c6
            obtain rfl := Option.some.inj H
            go_enter Tryz.func109, Tryz.ntmps109
            go_wp2
            go_ret
            exact ⟨by first | rfl | (simp; done) | (simp [*]; done), by repeat (first | exact Drawn0.refl _ | apply Drawn0.step)⟩
          · rw [if_neg c6] at H
            have c6b0 : (a0.toList == ([84, 72, 85] : List UInt8)) = false := beq_eq_false_iff_ne.mpr c6
            have c6b1 : (a0.toList != ([84, 72, 85] : List UInt8)) = true := bne_iff_ne.mpr c6
            by_cases c7 : a0.toList = ([70, 82, 73] : List UInt8)
            · rw [if_pos c7] at H
              have c7b0 : (a0.toList == ([70, 82, 73] : List UInt8)) = true := beq_iff_eq.mpr c7
              have c7b1 : (a0.toList != ([70, 82, 73] : List UInt8)) = false := bne_eq_false_iff_eq.mpr c7
              clear c7
              obtain rfl := Option.some.inj H
              go_enter Tryz.func109, Tryz.ntmps109
              go_wp2
              go_ret
              exact ⟨by first | rfl | (simp; done) | (simp [*]; done), by repeat (first | exact Drawn0.refl _ | apply Drawn0.step)⟩
            · rw [if_neg c7] at H
              have c7b0 : (a0.toList == ([70, 82, 73] : List UInt8)) = false := beq_eq_false_iff_ne.mpr c7
              have c7b1 : (a0.toList != ([70, 82, 73] : List UInt8)) = true := bne_iff_ne.mpr c7
              by_cases c8 : a0.toList = ([83, 65, 84] : List UInt8)
              · rw [if_pos c8] at H
                have c8b0 : (a0.toList == ([83, 65, 84] : List UInt8)) = true := beq_iff_eq.mpr c8
                have c8b1 : (a0.toList != ([83, 65, 84] : List UInt8)) = false := bne_eq_false_iff_eq.mpr c8
                clear c8
                obtain rfl := Option.some.inj H
                go_enter Tryz.func109, Tryz.ntmps109
                go_wp2
                go_ret
                exact ⟨by first | rfl | (simp; done) | (simp [*]; done), by repeat (first | exact Drawn0.refl _ | apply Drawn0.step)⟩
              · rw [if_neg c8] at H
                have c8b0 : (a0.toList == ([83, 65, 84] : List UInt8)) = false := beq_eq_false_iff_ne.mpr c8
                have c8b1 : (a0.toList != ([83, 65, 84] : List UInt8)) = true := bne_iff_ne.mpr c8
                by_cases c9 : a0.toList = ([74, 65, 78] : List UInt8)
                · rw [if_pos c9] at H
                  have c9b0 : (a0.toList == ([74, 65, 78] : List UInt8)) = true := beq_iff_eq.mpr c9
                  have c9b1 : (a0.toList != ([74, 65, 78] : List UInt8)) = false := bne_eq_false_iff_eq.mpr c9
                  clear c9
                  obtain rfl := Option.some.inj H
                  go_enter Tryz.func109, Tryz.ntmps109
                  go_wp2
                  go_ret
                  exact ⟨by first | rfl | (simp; done) | (simp [*]; done), by repeat (first | exact Drawn0.refl _ | apply Drawn0.step)⟩
                · rw [if_neg c9] at H
                  have c9b0 : (a0.toList == ([74, 65, 78] : List UInt8)) = false := beq_eq_false_iff_ne.mpr c9
                  have c9b1 : (a0.toList != ([74, 65, 78] : List UInt8)) = true := bne_iff_ne.mpr c9
                  by_cases c10 : a0.toList = ([70, 69, 66] : List UInt8)
                  · rw [if_pos c10] at H
                    have c10b0 : (a0.toList == ([70, 69, 66] : List UInt8)) = true := beq_iff_eq.mpr c10
                    have c10b1 : (a0.toList != ([70, 69, 66] : List UInt8)) = false := bne_eq_false_iff_eq.mpr c10
                    clear c10
                    obtain rfl := Option.some.inj H
                    go_enter Tryz.func109, Tryz.ntmps109
                    go_wp2
                    go_ret
                    exact ⟨by first | rfl | (simp; done) | (simp [*]; done), by repeat (first | exact Drawn0.refl _ | apply Drawn0.step)⟩
                  · rw [if_neg c10] at H
                    have c10b0 : (a0.toList == ([70, 69, 66] : List UInt8)) = false := beq_eq_false_iff_ne.mpr c10
                    have c10b1 : (a0.toList != ([70, 69, 66] : List UInt8)) = true := bne_iff_ne.mpr c10
                    by_cases c11 : a0.toList = ([77, 65, 82] : List UInt8)
                    · rw [if_pos c11] at H
                      have c11b0 : (a0.toList == ([77, 65, 82] : List UInt8)) = true := beq_iff_eq.mpr c11
                      have c11b1 : (a0.toList != ([77, 65, 82] : List UInt8)) = false := bne_eq_false_iff_eq.mpr c11
                      clear c11
                      obtain rfl := Option.some.inj H
                      go_enter Tryz.func109, Tryz.ntmps109
                      go_wp2
                      go_ret
                      exact ⟨by first | rfl | (simp; done) | (simp [*]; done), by repeat (first | exact Drawn0.refl _ | apply Drawn0.step)⟩
                    · rw [if_neg c11] at H
                      have c11b0 : (a0.toList == ([77, 65, 82] : List UInt8)) = false := beq_eq_false_iff_ne.mpr c11
                      have c11b1 : (a0.toList != ([77, 65, 82] : List UInt8)) = true := bne_iff_ne.mpr c11
                      by_cases c12 : a0.toList = ([65, 80, 82] : List UInt8)
                      · rw [if_pos c12] at H
                        have c12b0 : (a0.toList == ([65, 80, 82] : List UInt8)) = true := beq_iff_eq.mpr c12
                        have c12b1 : (a0.toList != ([65, 80, 82] : List UInt8)) = false := bne_eq_false_iff_eq.mpr c12
                        clear c12
                        obtain rfl := Option.some.inj H
                        go_enter Tryz.func109, Tryz.ntmps109
                        go_wp2
                        go_ret
                        exact ⟨by first | rfl | (simp; done) | (simp [*]; done), by repeat (first | exact Drawn0.refl _ | apply Drawn0.step)⟩
                      · rw [if_neg c12] at H
                        have c12b0 : (a0.toList == ([65, 80, 82] : List UInt8)) = false := beq_eq_false_iff_ne.mpr c12
                        have c12b1 : (a0.toList != ([65, 80, 82] : List UInt8)) = true := bne_iff_ne.mpr c12
                        by_cases c13 : a0.toList = ([77, 65, 89] : List UInt8)
                        · rw [if_pos c13] at H
                          have c13b0 : (a0.toList == ([77, 65, 89] : List UInt8)) = true := beq_iff_eq.mpr c13
                          have c13b1 : (a0.toList != ([77, 65, 89] : List UInt8)) = false := bne_eq_false_iff_eq.mpr c13
                          clear c13
                          obtain rfl := Option.some.inj H
                          go_enter Tryz.func109, Tryz.ntmps109
                          go_wp2
                          go_ret
                          exact ⟨by first | rfl | (simp; done) | (simp [*]; done), by repeat (first | exact Drawn0.refl _ | apply Drawn0.step)⟩
                        · rw [if_neg c13] at H
                          have c13b0 : (a0.toList == ([77, 65, 89] : List UInt8)) = false := beq_eq_false_iff_ne.mpr c13
                          have c13b1 : (a0.toList != ([77, 65, 89] : List UInt8)) = true := bne_iff_ne.mpr c13
                          by_cases c14 : a0.toList = ([74, 85, 78] : List UInt8)
                          · rw [if_pos c14] at H
                            have c14b0 : (a0.toList == ([74, 85, 78] : List UInt8)) = true := beq_iff_eq.mpr c14
                            have c14b1 : (a0.toList != ([74, 85, 78] : List UInt8)) = false := bne_eq_false_iff_eq.mpr c14
                            clear c14
                            obtain rfl := Option.some.inj H
                            go_enter Tryz.func109, Tryz.ntmps109
                            go_wp2
                            go_ret
                            exact ⟨by first | rfl | (simp; done) | (simp [*]; done), by repeat (first | exact Drawn0.refl _ | apply Drawn0.step)⟩
                          · rw [if_neg c14] at H
                            have c14b0 : (a0.toList == ([74, 85, 78] : List UInt8)) = false := beq_eq_false_iff_ne.mpr c14
                            have c14b1 : (a0.toList != ([74, 85, 78] : List UInt8)) = true := bne_iff_ne.mpr c14
                            by_cases c15 : a0.toList = ([74, 85, 76] : List UInt8)
                            · rw [if_pos c15] at H
                              have c15b0 : (a0.toList == ([74, 85, 76] : List UInt8)) = true := beq_iff_eq.mpr c15
                              have c15b1 : (a0.toList != ([74, 85, 76] : List UInt8)) = false := bne_eq_false_iff_eq.mpr c15
                              clear c15
                              obtain rfl := Option.some.inj H
                              go_enter Tryz.func109, Tryz.ntmps109
                              go_wp2
                              go_ret
                              exact ⟨by first | rfl | (simp; done) | (simp [*]; done), by repeat (first | exact Drawn0.refl _ | apply Drawn0.step)⟩
                            · rw [if_neg c15] at H
                              have c15b0 : (a0.toList == ([74, 85, 76] : List UInt8)) = false := beq_eq_false_iff_ne.mpr c15
                              have c15b1 : (a0.toList != ([74, 85, 76] : List UInt8)) = true := bne_iff_ne.mpr c15
                              by_cases c16 : a0.toList = ([65, 85, 71] : List UInt8)
                              · rw [if_pos c16] at H
                                have c16b0 : (a0.toList == ([65, 85, 71] : List UInt8)) = true := beq_iff_eq.mpr c16
                                have c16b1 : (a0.toList != ([65, 85, 71] : List UInt8)) = false := bne_eq_false_iff_eq.mpr c16
                                clear c16
                                obtain rfl := Option.some.inj H
                                go_enter Tryz.func109, Tryz.ntmps109
                                go_wp2
                                go_ret
                                exact ⟨by first | rfl | (simp; done) | (simp [*]; done), by repeat (first | exact Drawn0.refl _ | apply Drawn0.step)⟩
                              · rw [if_neg c16] at H
                                have c16b0 : (a0.toList == ([65, 85, 71] : List UInt8)) = false := beq_eq_false_iff_ne.mpr c16
                                have c16b1 : (a0.toList != ([65, 85, 71] : List UInt8)) = true := bne_iff_ne.mpr c16
                                by_cases c17 : a0.toList = ([83, 69, 80] : List UInt8)
                                · rw [if_pos c17] at H
                                  have c17b0 : (a0.toList == ([83, 69, 80] : List UInt8)) = true := beq_iff_eq.mpr c17
                                  have c17b1 : (a0.toList != ([83, 69, 80] : List UInt8)) = false := bne_eq_false_iff_eq.mpr c17
                                  clear c17
                                  obtain rfl := Option.some.inj H
                                  go_enter Tryz.func109, Tryz.ntmps109
                                  go_wp2
                                  go_ret
                                  exact ⟨by first | rfl | (simp; done) | (simp [*]; done), by repeat (first | exact Drawn0.refl _ | apply Drawn0.step)⟩
                                · rw [if_neg c17] at H
                                  have c17b0 : (a0.toList == ([83, 69, 80] : List UInt8)) = false := beq_eq_false_iff_ne.mpr c17
                                  have c17b1 : (a0.toList != ([83, 69, 80] : List UInt8)) = true := bne_iff_ne.mpr c17
                                  by_cases c18 : a0.toList = ([79, 67, 84] : List UInt8)
                                  · rw [if_pos c18] at H
                                    have c18b0 : (a0.toList == ([79, 67, 84] : List UInt8)) = true := beq_iff_eq.mpr c18
                                    have c18b1 : (a0.toList != ([79, 67, 84] : List UInt8)) = false := bne_eq_false_iff_eq.mpr c18
                                    clear c18
                                    obtain rfl := Option.some.inj H
                                    go_enter Tryz.func109, Tryz.ntmps109
                                    go_wp2
                                    go_ret
                                    exact ⟨by first | rfl | (simp; done) | (simp [*]; done), by repeat (first | exact Drawn0.refl _ | apply Drawn0.step)⟩
                                  · rw [if_neg c18] at H
                                    have c18b0 : (a0.toList == ([79, 67, 84] : List UInt8)) = false := beq_eq_false_iff_ne.mpr c18
                                    have c18b1 : (a0.toList != ([79, 67, 84] : List UInt8)) = true := bne_iff_ne.mpr c18
                                    by_cases c19 : a0.toList = ([78, 79, 86] : List UInt8)
                                    · rw [if_pos c19] at H
                                      have c19b0 : (a0.toList == ([78, 79, 86] : List UInt8)) = true := beq_iff_eq.mpr c19
                                      have c19b1 : (a0.toList != ([78, 79, 86] : List UInt8)) = false := bne_eq_false_iff_eq.mpr c19
                                      clear c19
                                      obtain rfl := Option.some.inj H
                                      go_enter Tryz.func109, Tryz.ntmps109
                                      go_wp2
                                      go_ret
                                      exact ⟨by first | rfl | (simp; done) | (simp [*]; done), by repeat (first | exact Drawn0.refl _ | apply Drawn0.step)⟩
                                    · rw [if_neg c19] at H
                                      have c19b0 : (a0.toList == ([78, 79, 86] : List UInt8)) = false := beq_eq_false_iff_ne.mpr c19
                                      have c19b1 : (a0.toList != ([78, 79, 86] : List UInt8)) = true := bne_iff_ne.mpr c19
                                      by_cases c20 : a0.toList = ([68, 69, 67] : List UInt8)
                                      · rw [if_pos c20] at H
                                        have c20b0 : (a0.toList == ([68, 69, 67] : List UInt8)) = true := beq_iff_eq.mpr c20
                                        have c20b1 : (a0.toList != ([68, 69, 67] : List UInt8)) = false := bne_eq_false_iff_eq.mpr c20
                                        clear c20
                                        obtain rfl := Option.some.inj H
                                        go_enter Tryz.func109, Tryz.ntmps109
                                        go_wp2
                                        go_ret
                                        exact ⟨by first | rfl | (simp; done) | (simp [*]; done), by repeat (first | exact Drawn0.refl _ | apply Drawn0.step)⟩
                                      · rw [if_neg c20] at H
                                        have c20b0 : (a0.toList == ([68, 69, 67] : List UInt8)) = false := beq_eq_false_iff_ne.mpr c20
                                        have c20b1 : (a0.toList != ([68, 69, 67] : List UInt8)) = true := bne_iff_ne.mpr c20
                                        obtain rfl := Option.some.inj H
                                        go_enter Tryz.func109, Tryz.ntmps109
                                        go_wp2
                                        go_ret
                                        exact ⟨by first | rfl | (simp; done) | (simp [*]; done), by repeat (first | exact Drawn0.refl _ | apply Drawn0.step)⟩
end Go.Proofs.YtkhgeonlohafgaaGreatDoor.Core
namespace Go.Proofs.YtkhgeonlohafgaaGreatDoor.Core
open Go.RowKit Go.Proofs.YtkhgeonlohafgaaGreatDoorW.PrintWords Go.Proofs.YtkhgeonlohafgaaGreatDoorW.PrintLast Go.Proofs.YtkhgeonlohafgaaGreatDoorW.PrintMore
attribute [local go_sem] max2_int min2_int max_two min_two max_three min_three max_four min_four   -- for this text's walks alone
set_option linter.unusedVariables false
set_option linter.unusedSimpArgs false
def gronx_zzLiterals.l0 : Nat → ByteArray → List Int → Int → Option (ByteArray)
  | 0, _, _, _ => none
  | k + 1, x0, x3, x4 => if x4 < (x0.size : Int) then (if (wrap64 (x4 + 3)) ≤ (x0.size : Int) then (if 0 ≤ x4 then (if x4 ≤ (wrap64 (x4 + 3)) then ((gronx_literal.f (x0.extract (x4 : Int).toNat ((wrap64 (x4 + 3)) : Int).toNat)).bind fun t208 => (if t208.toList = ([] : List UInt8) then (if x3.length < 140737488355328 then (gronx_zzLiterals.l0 k x0 (x3 ++ [bt x0 x4]) (wrap64 (x4 + 1))) else (none)) else (if x3.length + t208.size < 140737488355328 then (gronx_zzLiterals.l0 k x0 (x3 ++ bytesOf t208) (wrap64 (x4 + 3))) else (none)))) else (none)) else (none)) else (if 0 ≤ x4 then (if x3.length < 140737488355328 then (gronx_zzLiterals.l0 k x0 (x3 ++ [bt x0 x4]) (wrap64 (x4 + 1))) else (none)) else (none))) else (some (strOfNums x3))
def gronx_zzLiterals.f (k : Nat) (a0 : ByteArray) : Option (ByteArray) := gronx_zzLiterals.l0 k a0 ([] : List Int) 0
set_option maxHeartbeats 8000000 in
set_option maxRecDepth 100000 in
theorem gronx_zzLiterals.calls (k : Nat) (a0 : ByteArray) (r : ByteArray) (w : World) (h : gronx_zzLiterals.f k a0 = some r) :
    Calls Tryz.prog 77 #[.string a0] w fun e w' => e = .returned (.string r) ∧ Below w.heap.size w w' := by
  have HB := Aside0.mk (Below.refl w.heap.size w)
  have H : (gronx_zzLiterals.l0 k a0 ([] : List Int) 0) = some r := h
  clear h
  have H' := Aside0.mk H
  clear H
  go_enter Tryz.func77, Tryz.ntmps77
  go_wp2
  go_loopg [3, 4] k (fun kq v3 v4 w' => ∃ (x3_1 : List Int) (x4_1 : Int), v4 = .int .i64 x4_1 ∧ Aside0 (gronx_zzLiterals.l0 kq a0 x3_1 x4_1 = some r) ∧ Aside0 (kq ≤ k) ∧ Aside0 (Kd.R (Kd.int .u8) 5 w' w.heap.size (fun _ => True) v3 x3_1) ∧ Aside0 (Below w.heap.size w w'))
  case atStart => exact ⟨(([] : List Int)), (0), (by first | rfl | (simp; done) | (simp [*]; done)), H', ⟨Nat.le_refl _⟩, ⟨by first | exact Kd.R_nil _ _ _ _ _ | exact Kd.N_nil _ _ _ _ _ | exact Kd.V_nil _ _ _ _ _ | exact Kd.Q_nil _ _ _ _ _ | exact Kd.S_nil _ _ _ _ _⟩, ⟨by repeat (first | (with_reducible first | exact HB.out | apply below_alloc | apply pw_below_drewN | apply below_drew1) | exact HB.out)⟩⟩
  case round =>
    clear H'
    obtain ⟨x3_1, x4_1, rfl, HA, HK1, HO_3, HB⟩ := hrel
    cases gk with
    | zero => exact absurd HA.out (by simp [gronx_zzLiterals.l0])
    | succ k1 =>
      have H := HA.out
      clear HA
      simp only [gronx_zzLiterals.l0] at H
      by_cases c2 : x4_1 < (a0.size : Int)
      · rw [if_pos c2] at H
        have c2b0 : decide (x4_1 < (a0.size : Int)) = true := decide_eq_true c2
        clear c2
        by_cases c3 : (wrap64 (x4_1 + 3)) ≤ (a0.size : Int)
        · rw [if_pos c3] at H
          have c3b0 : decide ((wrap64 (x4_1 + 3)) ≤ (a0.size : Int)) = true := decide_eq_true c3
          clear c3
          by_cases c4 : 0 ≤ x4_1
          · rw [if_pos c4] at H
            have c4b0 := eq_true c4
            have c4b1 : decide (0 ≤ x4_1) = true := decide_eq_true c4
            clear c4
            by_cases c5 : x4_1 ≤ (wrap64 (x4_1 + 3))
            · rw [if_pos c5] at H
              have c5b0 := eq_true c5
              have c5b1 : decide (x4_1 ≤ (wrap64 (x4_1 + 3))) = true := decide_eq_true c5
              have c6b0 := eq_true (of_decide_eq_true (by first | (with_reducible assumption) | assumption) : (wrap64 (x4_1 + 3)) ≤ (a0.size : Int))
              replace H := Option.bind_eq_some_iff.mp H
              obtain ⟨t208, A70, H⟩ := H
              replace H : (if t208.toList = ([] : List UInt8) then (if x3_1.length < 140737488355328 then (gronx_zzLiterals.l0 k1 a0 (x3_1 ++ [bt a0 x4_1]) (wrap64 (x4_1 + 1))) else (none)) else (if x3_1.length + t208.size < 140737488355328 then (gronx_zzLiterals.l0 k1 a0 (x3_1 ++ bytesOf t208) (wrap64 (x4_1 + 3))) else (none))) = some r := H
              have A7 := Aside0.mk A70
              clear A70
              by_cases c8 : t208.toList = ([] : List UInt8)
              · rw [if_pos c8] at H
                have c8b0 : (t208.toList == ([] : List UInt8)) = true := beq_iff_eq.mpr c8
                have c8b1 : (t208.toList != ([] : List UInt8)) = false := bne_eq_false_iff_eq.mpr c8
                clear c8
                by_cases c10 : x3_1.length < 140737488355328
                · rw [if_pos c10] at H
                  have LMc10 := Aside0.mk c10
                  clear c10
                  obtain ⟨y209, hy209⟩ : ∃ y_ : List Int, y_ = (x3_1 ++ [bt a0 x4_1]) := ⟨_, rfl⟩
                  replace H : (gronx_zzLiterals.l0 k1 a0 y209 (wrap64 (x4_1 + 1))) = some r := by first | (rw [hy209]; with_reducible exact H) | (have H2_ := (Option.bind_some _ _).symm.trans H; rw [hy209]; with_reducible exact H2_) | (have H2_ := (Option.bind_some _ _).symm.trans H; with_reducible exact H2_) | with_reducible exact H | (rw [hy209]; exact H) | exact H
                  have Ny209 := Aside0.mk hy209
                  clear hy209
                  have H' := Aside0.mk H
                  clear H
                  go_wp2_with (first | ((with_reducible refine gate_callee (f := 109) rfl ?_); refine goesL_ (some 20) rfl rfl Tryz.func109 (by kernel_rfl) rfl #[.string (a0.extract (x4_1 : Int).toNat ((wrap64 (x4_1 + 3)) : Int).toNat)] rfl (by (try simp only [List.map_toArray, List.map_cons, List.map_nil]); first | done | rfl | (simp only [List.length_drop, List.length_take]; rfl)) ?_; (with_reducible refine (gronx_literal.calls (a0.extract (x4_1 : Int).toNat ((wrap64 (x4_1 + 3)) : Int).toNat) t208 _ A7.out).mono ?_); rintro e w' ⟨rfl, ⟨nd, rfl⟩⟩; refine ⟨_, rfl, ?_⟩; have p9 : 0 ≤ (x4_1 : Int) := of_decide_eq_true (by first | (with_reducible assumption) | assumption); have q9 : x4_1 < (a0.size : Int) := of_decide_eq_true (by first | (with_reducible assumption) | assumption); have hx9 := bt_at a0 x4_1; replace p9 := eq_true p9; replace q9 := eq_true q9) | ((with_reducible refine gate_builtin (b := .append) (xs := #[.tmp 28, .tmp 32]) rfl ?_); at_builtin; refine Kd.R_append (Kd.int .u8) (w0 := w) w.heap.size rfl (.tmp 28) (.tmp 32) 78 5 (.int .u8 0) 1 rfl Tryz.underlying78 info5 rfl (by decide) (by omega) u3 x3_1 (bt a0 x4_1) [.int .u8 (bt a0 x4_1)] (fun _ => True) (fun _ => False) rfl rfl ?aP (fun _ hk => hk.elim) ?aF ?aO ?aB ?aS ?aL ?_; (case aP => exact rfl); (case aB => exact (by repeat (first | (with_reducible first | exact HB.out | apply below_alloc | apply pw_below_drewN | apply below_drew1) | exact HB.out))); (case aF => exact (fun _ _ => trivial)); (case aO => exact (by (with_reducible repeat (first | apply Kd.R_alloc | apply Kd.R_drewN | apply Kd.R_drew)); exact HO_3.out)); (case aS => exact (below_size (by repeat (first | (with_reducible first | exact HB.out | apply below_alloc | apply pw_below_drewN | apply below_drew1) | exact HB.out)))); (case aL => have := LMc10.out; omega); intro v210 w11 ho hb hg hat; rw [← Ny209.out] at ho; have n0_ := Aside0.mk (hb); have n1_ := Aside0.mk (ho); clear HB; clear HO_3; have HB := n0_; have HO211 := n1_; clear n0_ n1_; clear ho hb hg hat))
                  go_roundg k1
                  case measure => have := HK1.out; omega
                  case rel => exact ⟨(y209), (wrap64 (x4_1 + 1)), (by first | rfl | (simp; done) | (simp [*]; done)), H', ⟨by have := HK1.out; omega⟩, ⟨by (with_reducible repeat (first | apply Kd.R_alloc | apply Kd.R_drewN | apply Kd.R_drew)); exact HO211.out⟩, ⟨by repeat (first | (with_reducible first | exact HB.out | apply below_alloc | apply pw_below_drewN | apply below_drew1) | exact HB.out)⟩⟩
                · rw [if_neg c10] at H
                  exact absurd H (by simp)
              · rw [if_neg c8] at H
                have c8b0 : (t208.toList == ([] : List UInt8)) = false := beq_eq_false_iff_ne.mpr c8
                have c8b1 : (t208.toList != ([] : List UInt8)) = true := bne_iff_ne.mpr c8
                by_cases c12 : x3_1.length + t208.size < 140737488355328
                · rw [if_pos c12] at H
                  have LMc12 := Aside0.mk c12
                  clear c12
                  obtain ⟨y212, hy212⟩ : ∃ y_ : List Int, y_ = (x3_1 ++ bytesOf t208) := ⟨_, rfl⟩
                  replace H : (gronx_zzLiterals.l0 k1 a0 y212 (wrap64 (x4_1 + 3))) = some r := by first | (rw [hy212]; with_reducible exact H) | (have H2_ := (Option.bind_some _ _).symm.trans H; rw [hy212]; with_reducible exact H2_) | (have H2_ := (Option.bind_some _ _).symm.trans H; with_reducible exact H2_) | with_reducible exact H | (rw [hy212]; exact H) | exact H
                  have Ny212 := Aside0.mk hy212
                  clear hy212
                  have H' := Aside0.mk H
                  clear H
                  go_wp2_with (first | ((with_reducible refine gate_callee (f := 109) rfl ?_); refine goesL_ (some 20) rfl rfl Tryz.func109 (by kernel_rfl) rfl #[.string (a0.extract (x4_1 : Int).toNat ((wrap64 (x4_1 + 3)) : Int).toNat)] rfl (by (try simp only [List.map_toArray, List.map_cons, List.map_nil]); first | done | rfl | (simp only [List.length_drop, List.length_take]; rfl)) ?_; (with_reducible refine (gronx_literal.calls (a0.extract (x4_1 : Int).toNat ((wrap64 (x4_1 + 3)) : Int).toNat) t208 _ A7.out).mono ?_); rintro e w' ⟨rfl, ⟨nd, rfl⟩⟩; refine ⟨_, rfl, ?_⟩) | (at_builtin; refine print_append_str (w0 := w) w.heap.size rfl (.tmp 23) _ 78 9 5 rfl Tryz.underlying78 Tryz.underlying9 info5 u3 x3_1 t208 rfl rfl ?aO ?aB ?aS ?aL ?_; (case aB => exact (by repeat (first | (with_reducible first | exact HB.out | apply below_alloc | apply pw_below_drewN | apply below_drew1) | exact HB.out))); (case aO => exact (Kd.own_of_R (by (with_reducible repeat (first | apply Kd.R_alloc | apply Kd.R_drewN | apply Kd.R_drew)); exact HO_3.out))); (case aS => exact (below_size (by repeat (first | (with_reducible first | exact HB.out | apply below_alloc | apply pw_below_drewN | apply below_drew1) | exact HB.out)))); (case aL => have := LMc12.out; omega); intro v213 w13 ho0 hb hg; have ho := Kd.R_of_own (h1 := fun _ => rfl) (ok := fun _ => True) ho0 (fun _ _ => trivial); clear ho0; have hat := True.intro; rw [← Ny212.out] at ho; change Kd.R (Kd.int .u8) 5 w13 w.heap.size (fun _ => True) v213 y212 at ho; have n0_ := Aside0.mk (hb); have n1_ := Aside0.mk (ho); clear HB; clear HO_3; have HB := n0_; have HO214 := n1_; clear n0_ n1_; clear ho hb hg hat))
                  go_roundg k1
                  case measure => have := HK1.out; omega
                  case rel => exact ⟨(y212), (wrap64 (x4_1 + 3)), (by first | rfl | (simp; done) | (simp [*]; done)), H', ⟨by have := HK1.out; omega⟩, ⟨by (with_reducible repeat (first | apply Kd.R_alloc | apply Kd.R_drewN | apply Kd.R_drew)); exact HO214.out⟩, ⟨by repeat (first | (with_reducible first | exact HB.out | apply below_alloc | apply pw_below_drewN | apply below_drew1) | exact HB.out)⟩⟩
                · rw [if_neg c12] at H
                  exact absurd H (by simp)
            · rw [if_neg c5] at H
              exact absurd H (by simp)
          · rw [if_neg c4] at H
            exact absurd H (by simp)
        · rw [if_neg c3] at H
          have c3b0 : decide ((wrap64 (x4_1 + 3)) ≤ (a0.size : Int)) = false := decide_eq_false c3
          clear c3
          by_cases c14 : 0 ≤ x4_1
          · rw [if_pos c14] at H
            have c14b0 : decide (0 ≤ x4_1) = true := decide_eq_true c14
            clear c14
            by_cases c16 : x3_1.length < 140737488355328
            · rw [if_pos c16] at H
              have LMc16 := Aside0.mk c16
              clear c16
              obtain ⟨y215, hy215⟩ : ∃ y_ : List Int, y_ = (x3_1 ++ [bt a0 x4_1]) := ⟨_, rfl⟩
              replace H : (gronx_zzLiterals.l0 k1 a0 y215 (wrap64 (x4_1 + 1))) = some r := by first | (rw [hy215]; with_reducible exact H) | (have H2_ := (Option.bind_some _ _).symm.trans H; rw [hy215]; with_reducible exact H2_) | (have H2_ := (Option.bind_some _ _).symm.trans H; with_reducible exact H2_) | with_reducible exact H | (rw [hy215]; exact H) | exact H
              have Ny215 := Aside0.mk hy215
              clear hy215
              have H' := Aside0.mk H
              clear H
              have p15 : 0 ≤ (x4_1 : Int) := of_decide_eq_true (by first | (with_reducible assumption) | assumption)
              have q15 : x4_1 < (a0.size : Int) := of_decide_eq_true (by first | (with_reducible assumption) | assumption)
              have hx15 := bt_at a0 x4_1
              replace p15 := eq_true p15
              replace q15 := eq_true q15
              go_wp2_with (first | ((with_reducible refine gate_builtin (b := .append) (xs := #[.tmp 28, .tmp 32]) rfl ?_); at_builtin; refine Kd.R_append (Kd.int .u8) (w0 := w) w.heap.size rfl (.tmp 28) (.tmp 32) 78 5 (.int .u8 0) 1 rfl Tryz.underlying78 info5 rfl (by decide) (by omega) u3 x3_1 (bt a0 x4_1) [.int .u8 (bt a0 x4_1)] (fun _ => True) (fun _ => False) rfl rfl ?aP (fun _ hk => hk.elim) ?aF ?aO ?aB ?aS ?aL ?_; (case aP => exact rfl); (case aB => exact (by repeat (first | (with_reducible first | exact HB.out | apply below_alloc | apply pw_below_drewN | apply below_drew1) | exact HB.out))); (case aF => exact (fun _ _ => trivial)); (case aO => exact (by (with_reducible repeat (first | apply Kd.R_alloc | apply Kd.R_drewN | apply Kd.R_drew)); exact HO_3.out)); (case aS => exact (below_size (by repeat (first | (with_reducible first | exact HB.out | apply below_alloc | apply pw_below_drewN | apply below_drew1) | exact HB.out)))); (case aL => have := LMc16.out; omega); intro v216 w17 ho hb hg hat; rw [← Ny215.out] at ho; have n0_ := Aside0.mk (hb); have n1_ := Aside0.mk (ho); clear HB; clear HO_3; have HB := n0_; have HO217 := n1_; clear n0_ n1_; clear ho hb hg hat))
              go_roundg k1
              case measure => have := HK1.out; omega
              case rel => exact ⟨(y215), (wrap64 (x4_1 + 1)), (by first | rfl | (simp; done) | (simp [*]; done)), H', ⟨by have := HK1.out; omega⟩, ⟨by (with_reducible repeat (first | apply Kd.R_alloc | apply Kd.R_drewN | apply Kd.R_drew)); exact HO217.out⟩, ⟨by repeat (first | (with_reducible first | exact HB.out | apply below_alloc | apply pw_below_drewN | apply below_drew1) | exact HB.out)⟩⟩
            · rw [if_neg c16] at H
              exact absurd H (by simp)
          · rw [if_neg c14] at H
            exact absurd H (by simp)
      · rw [if_neg c2] at H
        have c2b0 : decide (x4_1 < (a0.size : Int)) = false := decide_eq_false c2
        clear c2
        obtain rfl := Option.some.inj H
        have hcv18 := own_string (P := Tryz.prog) Tryz.underlying78 Tryz.underlying5 Tryz.underlying9 (Kd.own_of_R HO_3.out)
        go_wp2
        go_ret
        exact ⟨by first | rfl | (simp [errW_none, errW_some] <;> rfl) | (simp [*, errW_none, errW_some] <;> rfl), by repeat (first | (with_reducible first | exact HB.out | apply below_alloc | apply pw_below_drewN | apply below_drew1) | exact HB.out)⟩
end Go.Proofs.YtkhgeonlohafgaaGreatDoor.Core
namespace Go.Proofs.YtkhgeonlohafgaaGreatDoor.Core
open Go.RowKit Go.Proofs.YtkhgeonlohafgaaGreatDoorW.PrintWords Go.Proofs.YtkhgeonlohafgaaGreatDoorW.PrintLast Go.Proofs.YtkhgeonlohafgaaGreatDoorW.PrintMore
attribute [local go_sem] max2_int min2_int max_two min_two max_three min_three max_four min_four   -- for this text's walks alone
set_option linter.unusedVariables false
set_option linter.unusedSimpArgs false
def gronx_zzReplaceAll.l0 : Nat → ByteArray → ByteArray → ByteArray → List Int → Option (ByteArray)
  | 0, _, _, _, _ => none
  | k + 1, x0, x1, x2, x7 => (gronx_zzIndex.f k x0 x1).bind fun t218 => (if t218 < 0 then (if x7.length + x0.size < 140737488355328 then (some (strOfNums (x7 ++ bytesOf x0))) else (none)) else (if 0 ≤ t218 then (if t218 ≤ (x0.size : Int) then (if x7.length + (x0.extract 0 (t218 : Int).toNat).size < 140737488355328 then ((some (x7 ++ bytesOf (x0.extract 0 (t218 : Int).toNat) : List Int)).bind fun y222 => (if y222.length + x2.size < 140737488355328 then (if 0 ≤ (wrap64 (t218 + (x1.size : Int))) then (if (wrap64 (t218 + (x1.size : Int))) ≤ (x0.size : Int) then (gronx_zzReplaceAll.l0 k (x0.extract ((wrap64 (t218 + (x1.size : Int))) : Int).toNat x0.size) x1 x2 (y222 ++ bytesOf x2)) else (none)) else (none)) else (none))) else (none)) else (none)) else (none)))
def gronx_zzReplaceAll.f (k : Nat) (a0 : ByteArray) (a1 : ByteArray) (a2 : ByteArray) : Option (ByteArray) := gronx_zzReplaceAll.l0 k a0 a1 a2 ([] : List Int)
set_option maxHeartbeats 8000000 in
set_option maxRecDepth 100000 in
theorem gronx_zzReplaceAll.calls (k : Nat) (a0 : ByteArray) (a1 : ByteArray) (a2 : ByteArray) (r : ByteArray) (w : World) (h : gronx_zzReplaceAll.f k a0 a1 a2 = some r) :
    Calls Tryz.prog 79 #[.string a0, .string a1, .string a2] w fun e w' => e = .returned (.string r) ∧ Below w.heap.size w w' := by
  have HB := Aside0.mk (Below.refl w.heap.size w)
  have H : (gronx_zzReplaceAll.l0 k a0 a1 a2 ([] : List Int)) = some r := h
  clear h
  have H' := Aside0.mk H
  clear H
  go_enter Tryz.func79, Tryz.ntmps79
  go_wp2
  go_loopg [0, 7] k (fun kq v0 v7 w' => ∃ (x0_1 : ByteArray) (x7_1 : List Int), v0 = .string x0_1 ∧ Aside0 (gronx_zzReplaceAll.l0 kq x0_1 a1 a2 x7_1 = some r) ∧ Aside0 (kq ≤ k) ∧ Aside0 (Kd.R (Kd.int .u8) 5 w' w.heap.size (fun _ => True) v7 x7_1) ∧ Aside0 (Below w.heap.size w w'))
  case atStart => exact ⟨(a0), (([] : List Int)), (by first | rfl | (simp; done) | (simp [*]; done)), H', ⟨Nat.le_refl _⟩, ⟨by first | exact Kd.R_nil _ _ _ _ _ | exact Kd.N_nil _ _ _ _ _ | exact Kd.V_nil _ _ _ _ _ | exact Kd.Q_nil _ _ _ _ _ | exact Kd.S_nil _ _ _ _ _⟩, ⟨by repeat (first | (with_reducible first | exact HB.out | apply below_alloc | apply pw_below_drewN | apply below_drew1) | exact HB.out)⟩⟩
  case round =>
    clear H'
    try clear p2
    obtain ⟨x0_1, x7_1, rfl, HA, HK1, HO_7, HB⟩ := hrel
    cases gk with
    | zero => exact absurd HA.out (by simp [gronx_zzReplaceAll.l0])
    | succ k1 =>
      have H := HA.out
      clear HA
      simp only [gronx_zzReplaceAll.l0] at H
      replace H := Option.bind_eq_some_iff.mp H
      obtain ⟨t218, A40, H⟩ := H
      replace H : (if t218 < 0 then (if x7_1.length + x0_1.size < 140737488355328 then (some (strOfNums (x7_1 ++ bytesOf x0_1))) else (none)) else (if 0 ≤ t218 then (if t218 ≤ (x0_1.size : Int) then (if x7_1.length + (x0_1.extract 0 (t218 : Int).toNat).size < 140737488355328 then ((some (x7_1 ++ bytesOf (x0_1.extract 0 (t218 : Int).toNat) : List Int)).bind fun y222 => (if y222.length + a2.size < 140737488355328 then (if 0 ≤ (wrap64 (t218 + (a1.size : Int))) then (if (wrap64 (t218 + (a1.size : Int))) ≤ (x0_1.size : Int) then (gronx_zzReplaceAll.l0 k1 (x0_1.extract ((wrap64 (t218 + (a1.size : Int))) : Int).toNat x0_1.size) a1 a2 (y222 ++ bytesOf a2)) else (none)) else (none)) else (none))) else (none)) else (none)) else (none))) = some r := H
      have A4 := Aside0.mk A40
      clear A40
      by_cases c5 : t218 < 0
      · rw [if_pos c5] at H
        have c5b0 : decide (t218 < 0) = true := decide_eq_true c5
        clear c5
        by_cases c6 : x7_1.length + x0_1.size < 140737488355328
        · rw [if_pos c6] at H
          have LMc6 := Aside0.mk c6
          clear c6
          obtain ⟨y219, hy219⟩ : ∃ y_ : List Int, y_ = (x7_1 ++ bytesOf x0_1) := ⟨_, rfl⟩
          replace H : (some (strOfNums y219)) = some r := by first | (rw [hy219]; with_reducible exact H) | (have H2_ := (Option.bind_some _ _).symm.trans H; rw [hy219]; with_reducible exact H2_) | (have H2_ := (Option.bind_some _ _).symm.trans H; with_reducible exact H2_) | with_reducible exact H | (rw [hy219]; exact H) | exact H
          have Ny219 := Aside0.mk hy219
          clear hy219
          obtain rfl := Option.some.inj H
          go_wp2_with (first | ((with_reducible refine gate_callee (f := 80) rfl ?_); refine goesL_ (some 11) rfl rfl Tryz.func80 (by kernel_rfl) rfl #[.string x0_1, .string a1] rfl (by (try simp only [List.map_toArray, List.map_cons, List.map_nil]); first | done | rfl | (simp only [List.length_drop, List.length_take]; rfl)) ?_; (with_reducible refine (gronx_zzIndex.calls k1 x0_1 a1 t218 _ A4.out).mono ?_); rintro e w' ⟨rfl, ⟨nd, rfl⟩⟩; refine ⟨_, rfl, ?_⟩) | (at_builtin; refine print_append_str (w0 := w) w.heap.size rfl (.tmp 14) _ 78 9 5 rfl Tryz.underlying78 Tryz.underlying9 info5 u7 x7_1 x0_1 rfl rfl ?aO ?aB ?aS ?aL ?_; (case aB => exact (by repeat (first | (with_reducible first | exact HB.out | apply below_alloc | apply pw_below_drewN | apply below_drew1) | exact HB.out))); (case aO => exact (Kd.own_of_R (by (with_reducible repeat (first | apply Kd.R_alloc | apply Kd.R_drewN | apply Kd.R_drew)); exact HO_7.out))); (case aS => exact (below_size (by repeat (first | (with_reducible first | exact HB.out | apply below_alloc | apply pw_below_drewN | apply below_drew1) | exact HB.out)))); (case aL => have := LMc6.out; omega); intro v220 w7 ho0 hb hg; have ho := Kd.R_of_own (h1 := fun _ => rfl) (ok := fun _ => True) ho0 (fun _ _ => trivial); clear ho0; have hat := True.intro; rw [← Ny219.out] at ho; change Kd.R (Kd.int .u8) 5 w7 w.heap.size (fun _ => True) v220 y219 at ho; have n0_ := Aside0.mk (hb); have n1_ := Aside0.mk (ho); clear HB; clear HO_7; have HB := n0_; have HO221 := n1_; clear n0_ n1_; clear ho hb hg hat; have hcv8 := own_string (P := Tryz.prog) Tryz.underlying78 Tryz.underlying5 Tryz.underlying9 (Kd.own_of_R HO221.out)))
          go_ret
          exact ⟨by first | rfl | (simp [errW_none, errW_some] <;> rfl) | (simp [*, errW_none, errW_some] <;> rfl), by repeat (first | (with_reducible first | exact HB.out | apply below_alloc | apply pw_below_drewN | apply below_drew1) | exact HB.out)⟩
        · rw [if_neg c6] at H
          exact absurd H (by simp)
      · rw [if_neg c5] at H
        have c5b0 : decide (t218 < 0) = false := decide_eq_false c5
        clear c5
        by_cases c9 : 0 ≤ t218
        · rw [if_pos c9] at H
          have c9b0 := eq_true c9
          have c9b1 : decide (0 ≤ t218) = true := decide_eq_true c9
          clear c9
          by_cases c10 : t218 ≤ (x0_1.size : Int)
          · rw [if_pos c10] at H
            have c10b0 := eq_true c10
            have c10b1 : decide (t218 ≤ (x0_1.size : Int)) = true := decide_eq_true c10
            clear c10
            by_cases c11 : x7_1.length + (x0_1.extract 0 (t218 : Int).toNat).size < 140737488355328
            · rw [if_pos c11] at H
              have LMc11 := Aside0.mk c11
              clear c11
              obtain ⟨y222, hy222⟩ : ∃ y_ : List Int, y_ = (x7_1 ++ bytesOf (x0_1.extract 0 (t218 : Int).toNat)) := ⟨_, rfl⟩
              replace H : (if y222.length + a2.size < 140737488355328 then (if 0 ≤ (wrap64 (t218 + (a1.size : Int))) then (if (wrap64 (t218 + (a1.size : Int))) ≤ (x0_1.size : Int) then (gronx_zzReplaceAll.l0 k1 (x0_1.extract ((wrap64 (t218 + (a1.size : Int))) : Int).toNat x0_1.size) a1 a2 (y222 ++ bytesOf a2)) else (none)) else (none)) else (none)) = some r := by first | (rw [hy222]; with_reducible exact H) | (have H2_ := (Option.bind_some _ _).symm.trans H; rw [hy222]; with_reducible exact H2_) | (have H2_ := (Option.bind_some _ _).symm.trans H; with_reducible exact H2_) | with_reducible exact H | (rw [hy222]; exact H) | exact H
              have Ny222 := Aside0.mk hy222
              clear hy222
              by_cases c12 : y222.length + a2.size < 140737488355328
              · rw [if_pos c12] at H
                have LMc12 := Aside0.mk c12
                clear c12
                obtain ⟨y225, hy225⟩ : ∃ y_ : List Int, y_ = (y222 ++ bytesOf a2) := ⟨_, rfl⟩
                replace H : (if 0 ≤ (wrap64 (t218 + (a1.size : Int))) then (if (wrap64 (t218 + (a1.size : Int))) ≤ (x0_1.size : Int) then (gronx_zzReplaceAll.l0 k1 (x0_1.extract ((wrap64 (t218 + (a1.size : Int))) : Int).toNat x0_1.size) a1 a2 y225) else (none)) else (none)) = some r := by first | (rw [hy225]; with_reducible exact H) | (have H2_ := (Option.bind_some _ _).symm.trans H; rw [hy225]; with_reducible exact H2_) | (have H2_ := (Option.bind_some _ _).symm.trans H; with_reducible exact H2_) | with_reducible exact H | (rw [hy225]; exact H) | exact H
                have Ny225 := Aside0.mk hy225
                clear hy225
                obtain ⟨ji13, hji13⟩ : ∃ j_ : Int, (wrap64 (t218 + (a1.size : Int))) = j_ := ⟨_, rfl⟩
                replace H : (if 0 ≤ (ji13) then (if (ji13) ≤ (x0_1.size : Int) then (gronx_zzReplaceAll.l0 k1 (x0_1.extract ((ji13) : Int).toNat x0_1.size) a1 a2 y225) else (none)) else (none)) = some r := by first | (rw [hji13] at H; exact H) | (simp only [hji13] at H ⊢; exact H)
                (try rw [hji13] at A4)
                have hji13w : (IntKind.i64.wrap (t218 + (a1.size : Int))) = ji13 := (i64_w _).trans hji13
                by_cases c14 : 0 ≤ (ji13)
                · rw [if_pos c14] at H
                  have c14b0 := eq_true c14
                  have c14b1 : decide (0 ≤ (ji13)) = true := decide_eq_true c14
                  clear c14
                  by_cases c15 : (ji13) ≤ (x0_1.size : Int)
                  · rw [if_pos c15] at H
                    have c15b0 := eq_true c15
                    have c15b1 : decide ((ji13) ≤ (x0_1.size : Int)) = true := decide_eq_true c15
                    clear c15
                    have H' := Aside0.mk H
                    clear H
                    go_wp2_with (first | ((with_reducible refine gate_callee (f := 80) rfl ?_); refine goesL_ (some 11) rfl rfl Tryz.func80 (by kernel_rfl) rfl #[.string x0_1, .string a1] rfl (by (try simp only [List.map_toArray, List.map_cons, List.map_nil]); first | done | rfl | (simp only [List.length_drop, List.length_take]; rfl)) ?_; (with_reducible refine (gronx_zzIndex.calls k1 x0_1 a1 t218 _ A4.out).mono ?_); rintro e w' ⟨rfl, ⟨nd, rfl⟩⟩; refine ⟨_, rfl, ?_⟩) | (at_builtin; refine print_append_str (w0 := w) w.heap.size rfl (.tmp 18) _ 78 9 5 rfl Tryz.underlying78 Tryz.underlying9 info5 u7 x7_1 (x0_1.extract 0 (t218 : Int).toNat) rfl rfl ?aO ?aB ?aS ?aL ?_; (case aB => exact (by repeat (first | (with_reducible first | exact HB.out | apply below_alloc | apply pw_below_drewN | apply below_drew1) | exact HB.out))); (case aO => exact (Kd.own_of_R (by (with_reducible repeat (first | apply Kd.R_alloc | apply Kd.R_drewN | apply Kd.R_drew)); exact HO_7.out))); (case aS => exact (below_size (by repeat (first | (with_reducible first | exact HB.out | apply below_alloc | apply pw_below_drewN | apply below_drew1) | exact HB.out)))); (case aL => have := LMc11.out; omega); intro v223 w16 ho0 hb hg; have ho := Kd.R_of_own (h1 := fun _ => rfl) (ok := fun _ => True) ho0 (fun _ _ => trivial); clear ho0; have hat := True.intro; rw [← Ny222.out] at ho; change Kd.R (Kd.int .u8) 5 w16 w.heap.size (fun _ => True) v223 y222 at ho; have n0_ := Aside0.mk (hb); have n1_ := Aside0.mk (ho); clear HB; clear HO_7; have HB := n0_; have HO224 := n1_; clear n0_ n1_; clear ho hb hg hat) | (at_builtin; refine print_append_str (w0 := w) w.heap.size rfl (.tmp 22) _ 78 9 5 rfl Tryz.underlying78 Tryz.underlying9 info5 v223 y222 a2 rfl rfl ?aO ?aB ?aS ?aL ?_; (case aB => exact (by repeat (first | (with_reducible first | exact HB.out | apply below_alloc | apply pw_below_drewN | apply below_drew1) | exact HB.out))); (case aO => exact (Kd.own_of_R (by (with_reducible repeat (first | apply Kd.R_alloc | apply Kd.R_drewN | apply Kd.R_drew)); exact HO224.out))); (case aS => exact (below_size (by repeat (first | (with_reducible first | exact HB.out | apply below_alloc | apply pw_below_drewN | apply below_drew1) | exact HB.out)))); (case aL => have := LMc12.out; omega); intro v226 w17 ho0 hb hg; have ho := Kd.R_of_own (h1 := fun _ => rfl) (ok := fun _ => True) ho0 (fun _ _ => trivial); clear ho0; have hat := True.intro; rw [← Ny225.out] at ho; change Kd.R (Kd.int .u8) 5 w17 w.heap.size (fun _ => True) v226 y225 at ho; have n0_ := Aside0.mk (hb); have n1_ := Aside0.mk (ho); clear HB; clear HO224; have HB := n0_; have HO227 := n1_; clear n0_ n1_; clear ho hb hg hat))
                    go_roundg k1
                    case measure => have := HK1.out; omega
                    case rel => exact ⟨(x0_1.extract ((ji13) : Int).toNat x0_1.size), (y225), (by first | rfl | (simp; done) | (simp only [← hji13] <;> (first | rfl | simp)) | (simp [*]; done)), H', ⟨by have := HK1.out; omega⟩, ⟨by (with_reducible repeat (first | apply Kd.R_alloc | apply Kd.R_drewN | apply Kd.R_drew)); exact HO227.out⟩, ⟨by repeat (first | (with_reducible first | exact HB.out | apply below_alloc | apply pw_below_drewN | apply below_drew1) | exact HB.out)⟩⟩
                  · rw [if_neg c15] at H
                    exact absurd H (by simp)
                · rw [if_neg c14] at H
                  exact absurd H (by simp)
              · rw [if_neg c12] at H
                exact absurd H (by simp)
            · rw [if_neg c11] at H
              exact absurd H (by simp)
          · rw [if_neg c10] at H
            exact absurd H (by simp)
        · rw [if_neg c9] at H
          exact absurd H (by simp)
end Go.Proofs.YtkhgeonlohafgaaGreatDoor.Core
