/- Contracts and plain lemmas of this seat (part 4), merged by wip/merge2.py; what is proved stands in the claim's last text. -/
import Derived.Test.YtemgofomhjabpaaGreatDoorCLis1
import Derived.Test.YtemgofomhjabpaaGreatDoorCLis2
import Derived.Test.YtemgofomhjabpaaGreatDoorCLis3
import Derived.Deep.RegionHeld
namespace Go.Proofs.YtemgofomhjabpaaGreatDoor.Core
open Go.RowKit Go.Proofs.YtemgofomhjabpaaGreatDoorW.PrintWords Go.Proofs.YtemgofomhjabpaaGreatDoorW.PrintLast Go.Proofs.YtemgofomhjabpaaGreatDoorW.PrintMore
attribute [local go_sem] max2_int min2_int max_two min_two max_three min_three max_four min_four   -- for this text's walks alone
set_option linter.unusedVariables false
set_option linter.unusedSimpArgs false
mutual
def laws_expr.l0 : Nat → List (List (S69)) → Int → Int → List (List (S38)) → Bool → Option ((List (List (S38))) × Bool)
  | 0, _, _, _, _, _ => none
  | k + 1, x13, x14, x15, x107000, x107001 => if x15 < x14 then (if 0 ≤ x15 then (if x15 < (x13.length : Int) then (laws_expr.l1 k (([] : List (S38))) x13 x14 x15 (rd_L3 x13 x15) ((rd_L3 x13 x15).length : Int) 0 x107000 x107001) else (none)) else (none)) else (some (x107000, x107001))
def laws_expr.l1 : Nat → List (S38) → List (List (S69)) → Int → Int → List (S69) → Int → Int → List (List (S38)) → Bool → Option ((List (List (S38))) × Bool)
  | 0, _, _, _, _, _, _, _, _, _ => none
  | k + 1, x6, x13, x14, x15, x20, x21, x22, x107000, x107001 => if x22 < x21 then (if 0 ≤ x22 then (if x22 < (x20.length : Int) then (if x6.length < 4398046511104 then (laws_expr.l1 k (x6 ++ [(⟨(rd_T69 x20 x22).f0, (rd_T69 x20 x22).f1, (rd_T69 x20 x22).f2, (rd_T69 x20 x22).f3⟩ : S38)]) x13 x14 x15 x20 x21 (wrap64 (x22 + 1)) x107000 x107001) else (none)) else (none)) else (none)) else (if x107000.length < 5864062014805 then (laws_expr.l0 k x13 x14 (wrap64 (x15 + 1)) (x107000 ++ [x6]) x107001) else (none))
end
def laws_expr.f (k : Nat) (l0_0 : List (List (S69))) (a0_1 : Bool) : Option ((List (List (S38))) × Bool) := laws_expr.l0 k l0_0 (l0_0.length : Int) 0 ([] : List (List (S38))) a0_1
set_option maxHeartbeats 8000000 in
set_option maxRecDepth 100000 in
theorem laws_expr.calls (k : Nat) (A0_0 : Option Addr) (c0_0 : Nat) (l0_0 : List (List (S69))) (a0_1 : Bool) (r1 : List (List (S38))) (r2 : Bool) (w : World) (hr0_0 : Kd.C (Kd.slice 69 k69) w A0_0 l0_0.length l0_0) (hc0_0 : l0_0.length ≤ c0_0) (h : laws_expr.f k l0_0 a0_1 = some (r1, r2)) :
    Calls Tryz.prog 12 #[.agg #[.slice A0_0 l0_0.length c0_0, .bool a0_1]] w fun e w' => ∃ v0_ : Value, e = .returned (.agg #[v0_, .bool r2]) ∧ Kd.S (Kd.slice 38 k38) 36 w' w.heap.size (fun _ => True) v0_ r1 ∧ Below w.heap.size w w' := by
  have hu24 := Tryz.underlying24
  have hu30 := Tryz.underlying30
  have hu69 := Tryz.underlying69
  have hu38 := Tryz.underlying38
  have HR0_0 := Aside0.mk hr0_0
  have HC0_0 := Aside0.mk hc0_0
  clear hr0_0 hc0_0
  have HB := Aside0.mk (Below.refl w.heap.size w)
  have H : (laws_expr.l0 k l0_0 (l0_0.length : Int) 0 ([] : List (List (S38))) a0_1) = some (r1, r2) := h
  clear h
  have H' := Aside0.mk H
  clear H
  go_enter Tryz.func12, Tryz.ntmps12
  go_wp2_with (first | ((with_reducible refine gate_dst (N := 1) rfl ?_); refine box_event ?hg (N := 1) ?hd (cs := #[.slice A0_0 l0_0.length c0_0, .bool a0_1]) (t := 24) ?hr ?_; (case hd => rfl); (case hg => rfl); (case hr => first | (go_simp; done) | (go_simp; rfl)); intro gb104 hg w2 hbox hb; have n0_ := Aside0.mk (below_step (by repeat (first | (with_reducible first | exact HB.out | apply below_alloc | apply pw_below_drewN | apply below_drew1) | exact HB.out)) hb); have n1_ := Aside0.mk (hbox); have n2_ := Aside0.mk ((by rw [hg]; exact (below_size (by repeat (first | (with_reducible first | exact HB.out | apply below_alloc | apply pw_below_drewN | apply below_drew1) | exact HB.out))) : w.heap.size ≤ gb104)); have n3_ := Aside0.mk ((by rw [hg]; exact (below_size (by repeat (first | (with_reducible first | exact HB.out | apply below_alloc | apply pw_below_drewN | apply below_drew1) | exact HB.out))) : w.heap.size ≤ gb104)); clear HB; have HB := n0_; have BK104 := n1_; have GW104 := n2_; have GE104 := n3_; clear n0_ n1_ n2_ n3_; clear hb hbox hg) | ((with_reducible refine gate_dst (N := 2) rfl ?_); refine box_event ?hg (N := 2) ?hd (cs := #[.slice none 0 0, .bool false]) (t := 30) ?hr ?_; (case hd => rfl); (case hg => rfl); (case hr => first | (go_simp; done) | (go_simp; rfl)); intro gb105 hg w3 hbox hb; have n0_ := Aside0.mk (blk_below (g := gb104) (o := .cells #[.slice A0_0 l0_0.length c0_0, .bool a0_1] 24 (0, 0)) (by (with_reducible repeat (first | refine blk_drewN ?_ _ | refine blk_drew ?_ | refine blk_alloc ?_ _)); exact BK104.out) hb); have n1_ := Aside0.mk (below_step (by repeat (first | (with_reducible first | exact HB.out | apply below_alloc | apply pw_below_drewN | apply below_drew1 | refine below_set ?_ GE104.out) | exact HB.out)) hb); have n2_ := Aside0.mk (hbox); have n3_ := Aside0.mk ((by rw [hg]; exact (below_size (by repeat (first | (with_reducible first | exact HB.out | apply below_alloc | apply pw_below_drewN | apply below_drew1 | refine below_set ?_ GE104.out) | exact HB.out))) : w.heap.size ≤ gb105)); have n4_ := Aside0.mk ((by rw [hg]; exact (below_size (by repeat (first | (with_reducible first | exact HB.out | apply below_alloc | apply pw_below_drewN | apply below_drew1 | refine below_set ?_ GE104.out) | exact HB.out))) : w.heap.size ≤ gb105)); have n5_ := Aside0.mk ((by rw [hg]; exact Nat.ne_of_lt (blk_lt (g := gb104) (o := .cells #[.slice A0_0 l0_0.length c0_0, .bool a0_1] 24 (0, 0)) (by (with_reducible repeat (first | refine blk_drewN ?_ _ | refine blk_drew ?_ | refine blk_alloc ?_ _)); exact BK104.out)) : gb104 ≠ gb105)); have n6_ := Aside0.mk ((by rw [hg]; exact Nat.ne_of_gt (blk_lt (g := gb104) (o := .cells #[.slice A0_0 l0_0.length c0_0, .bool a0_1] 24 (0, 0)) (by (with_reducible repeat (first | refine blk_drewN ?_ _ | refine blk_drew ?_ | refine blk_alloc ?_ _)); exact BK104.out)) : gb105 ≠ gb104)); clear BK104; clear HB; have BK104 := n0_; have HB := n1_; have BK105 := n2_; have GW105 := n3_; have GE105 := n4_; have NB104_105 := n5_; have NB105_104 := n6_; clear n0_ n1_ n2_ n3_ n4_ n5_ n6_; clear hb hbox hg; have hnb4 := NB104_105.out; have hnc4 := NB105_104.out; have hcz5_0 : w3.cell? ⟨gb104, 0, none⟩ = some (.slice A0_0 l0_0.length c0_0) := (blk_cell BK104.out 0).trans rfl; have hcz5_1 : w3.cell? ⟨gb104, 1, none⟩ = some (.bool a0_1) := (blk_cell BK104.out 1).trans rfl; have hfz5_0 := blk_frozen BK104.out 0; have hfz5_1 := blk_frozen BK104.out 1) | ((with_reducible refine gate_dst (N := 3) rfl ?_); refine box_event ?hg (N := 3) ?hd (cs := #[.slice none 0 0, .bool false]) (t := 30) ?hr ?_; (case hd => rfl); (case hg => rfl); (case hr => first | (go_simp; done) | (go_simp; rfl)); intro gb106 hg w6 hbox hb; have n0_ := Aside0.mk (blk_below (g := gb104) (o := .cells #[.slice A0_0 l0_0.length c0_0, .bool a0_1] 24 (0, 0)) (by (with_reducible repeat (first | refine blk_drewN ?_ _ | refine blk_drew ?_ | refine blk_alloc ?_ _)); exact BK104.out) hb); have n1_ := Aside0.mk (blk_below (g := gb105) (o := .cells #[.slice none 0 0, .bool false] 30 (0, 0)) (by (with_reducible repeat (first | refine blk_drewN ?_ _ | refine blk_drew ?_ | refine blk_alloc ?_ _)); exact BK105.out) hb); have n2_ := Aside0.mk (below_step (by repeat (first | (with_reducible first | exact HB.out | apply below_alloc | apply pw_below_drewN | apply below_drew1 | refine below_set ?_ GE104.out | refine below_set ?_ GE105.out) | exact HB.out)) hb); have n3_ := Aside0.mk (hbox); have n4_ := Aside0.mk ((by rw [hg]; exact (below_size (by repeat (first | (with_reducible first | exact HB.out | apply below_alloc | apply pw_below_drewN | apply below_drew1 | refine below_set ?_ GE104.out | refine below_set ?_ GE105.out) | exact HB.out))) : w.heap.size ≤ gb106)); have n5_ := Aside0.mk ((by rw [hg]; exact (below_size (by repeat (first | (with_reducible first | exact HB.out | apply below_alloc | apply pw_below_drewN | apply below_drew1 | refine below_set ?_ GE104.out | refine below_set ?_ GE105.out) | exact HB.out))) : w.heap.size ≤ gb106)); have n6_ := Aside0.mk ((by rw [hg]; exact Nat.ne_of_lt (blk_lt (g := gb104) (o := .cells #[.slice A0_0 l0_0.length c0_0, .bool a0_1] 24 (0, 0)) (by (with_reducible repeat (first | refine blk_drewN ?_ _ | refine blk_drew ?_ | refine blk_alloc ?_ _)); exact BK104.out)) : gb104 ≠ gb106)); have n7_ := Aside0.mk ((by rw [hg]; exact Nat.ne_of_gt (blk_lt (g := gb104) (o := .cells #[.slice A0_0 l0_0.length c0_0, .bool a0_1] 24 (0, 0)) (by (with_reducible repeat (first | refine blk_drewN ?_ _ | refine blk_drew ?_ | refine blk_alloc ?_ _)); exact BK104.out)) : gb106 ≠ gb104)); have n8_ := Aside0.mk ((by rw [hg]; exact Nat.ne_of_lt (blk_lt (g := gb105) (o := .cells #[.slice none 0 0, .bool false] 30 (0, 0)) (by (with_reducible repeat (first | refine blk_drewN ?_ _ | refine blk_drew ?_ | refine blk_alloc ?_ _)); exact BK105.out)) : gb105 ≠ gb106)); have n9_ := Aside0.mk ((by rw [hg]; exact Nat.ne_of_gt (blk_lt (g := gb105) (o := .cells #[.slice none 0 0, .bool false] 30 (0, 0)) (by (with_reducible repeat (first | refine blk_drewN ?_ _ | refine blk_drew ?_ | refine blk_alloc ?_ _)); exact BK105.out)) : gb106 ≠ gb105)); clear BK104; clear BK105; clear HB; have BK104 := n0_; have BK105 := n1_; have HB := n2_; have BK106 := n3_; have GW106 := n4_; have GE106 := n5_; have NB104_106 := n6_; have NB106_104 := n7_; have NB105_106 := n8_; have NB106_105 := n9_; clear n0_ n1_ n2_ n3_ n4_ n5_ n6_ n7_ n8_ n9_; clear hb hbox hg; have hnb7 := NB106_104.out; have hnc7 := NB104_106.out; have hnb8 := NB106_105.out; have hnc8 := NB105_106.out; have hcz9_0 : w6.cell? ⟨gb106, 0, none⟩ = some (.slice none 0 0) := (blk_cell BK106.out 0).trans rfl; have hcz9_1 : w6.cell? ⟨gb106, 1, none⟩ = some (.bool false) := (blk_cell BK106.out 1).trans rfl; have hfz9_0 := blk_frozen BK106.out 0; have hfz9_1 := blk_frozen BK106.out 1; have hcz10_0 : w6.cell? ⟨gb104, 0, none⟩ = some (.slice A0_0 l0_0.length c0_0) := (blk_cell BK104.out 0).trans rfl; have hcz10_1 : w6.cell? ⟨gb104, 1, none⟩ = some (.bool a0_1) := (blk_cell BK104.out 1).trans rfl; have hfz10_0 := blk_frozen BK104.out 0; have hfz10_1 := blk_frozen BK104.out 1))
  go_loopg [15] k (fun kq v15 w' => ∃ (x15_1 : Int) (x107000_1 : List (List (S38))) (u107000 : Value), v15 = .int .i64 x15_1 ∧ Aside0 (laws_expr.l0 kq l0_0 (l0_0.length : Int) x15_1 x107000_1 a0_1 = some (r1, r2)) ∧ Aside0 (kq ≤ k) ∧ Aside0 (Kd.S (Kd.slice 38 k38) 36 w' w.heap.size (fun _ => True) u107000 x107000_1) ∧ Aside0 (w'.heap[gb104]? = some (.cells #[(.slice A0_0 l0_0.length c0_0), .bool a0_1] 24 (0, 0))) ∧ Aside0 (w'.heap[gb105]? = some (.cells #[(.slice none 0 0), .bool false] 30 (0, 0))) ∧ Aside0 (w'.heap[gb106]? = some (.cells #[u107000, .bool a0_1] 30 (0, 0))) ∧ Aside0 (Below w.heap.size w w'))
  case atStart => exact ⟨(0), (([] : List (List (S38)))), (.slice none 0 0), (by first | rfl | (simp; done) | (simp [*]; done)), H', ⟨Nat.le_refl _⟩, ⟨by first | exact Kd.S_nil _ _ _ _ _ | exact Kd.N_nil _ _ _ _ _ | exact Kd.V_nil _ _ _ _ _ | exact Kd.Q_nil _ _ _ _ _ | exact Kd.R_nil _ _ _ _ _⟩, ⟨by (with_reducible repeat (first | refine blk_drewN ?_ _ | refine blk_drew ?_ | refine blk_alloc ?_ _)); refine blk_far ?_ NB104_106.out _; (with_reducible repeat (first | refine blk_drewN ?_ _ | refine blk_drew ?_ | refine blk_alloc ?_ _)); refine blk_far ?_ NB104_106.out _; (with_reducible repeat (first | refine blk_drewN ?_ _ | refine blk_drew ?_ | refine blk_alloc ?_ _)); exact BK104.out⟩, ⟨by (with_reducible repeat (first | refine blk_drewN ?_ _ | refine blk_drew ?_ | refine blk_alloc ?_ _)); refine blk_far ?_ NB105_106.out _; (with_reducible repeat (first | refine blk_drewN ?_ _ | refine blk_drew ?_ | refine blk_alloc ?_ _)); refine blk_far ?_ NB105_106.out _; (with_reducible repeat (first | refine blk_drewN ?_ _ | refine blk_drew ?_ | refine blk_alloc ?_ _)); exact BK105.out⟩, ⟨by (with_reducible repeat (first | refine blk_drewN ?_ _ | refine blk_drew ?_ | refine blk_alloc ?_ _)); refine blk_put (cs := #[.slice none 0 0, .bool false]) ?_ 1 _ rfl; (with_reducible repeat (first | refine blk_drewN ?_ _ | refine blk_drew ?_ | refine blk_alloc ?_ _)); refine blk_put (cs := #[.slice none 0 0, .bool false]) ?_ 0 _ rfl; (with_reducible repeat (first | refine blk_drewN ?_ _ | refine blk_drew ?_ | refine blk_alloc ?_ _)); exact BK106.out⟩, ⟨by repeat (first | (with_reducible first | exact HB.out | apply below_alloc | apply pw_below_drewN | apply below_drew1 | refine below_set ?_ GE104.out | refine below_set ?_ GE105.out | refine below_set ?_ GE106.out) | exact HB.out)⟩⟩
  case round =>
    clear H'
    try clear c1
    try clear p2
    try clear c4
    try clear c7
    try clear c8
    try clear hcz10_0
    try clear hcz10_1
    try clear hcz5_0
    try clear hcz5_1
    try clear hcz9_0
    try clear hcz9_1
    try clear hfz10_0
    try clear hfz10_1
    try clear hfz5_0
    try clear hfz5_1
    try clear hfz9_0
    try clear hfz9_1
    obtain ⟨x15_1, x107000_1, u107000, rfl, HA, HK1, HO_107000, BK104, BK105, BK106, HB⟩ := hrel
    cases gk with
    | zero => exact absurd HA.out (by simp [laws_expr.l0])
    | succ k1 =>
      have H := HA.out
      clear HA
      simp only [laws_expr.l0] at H
      by_cases c11 : x15_1 < (l0_0.length : Int)
      · rw [if_pos c11] at H
        have c11b0 : decide (x15_1 < (l0_0.length : Int)) = true := decide_eq_true c11
        clear c11
        by_cases c12 : 0 ≤ x15_1
        · rw [if_pos c12] at H
          have c12b0 : decide (0 ≤ x15_1) = true := decide_eq_true c12
          clear c12
          by_cases c13 : x15_1 < (l0_0.length : Int)
          · rw [if_pos c13] at H
            have c13b0 : decide (x15_1 < (l0_0.length : Int)) = true := decide_eq_true c13
            clear c13
            obtain ⟨y108, hy108⟩ : ∃ y_ : List (S38), y_ = (([] : List (S38))) := ⟨_, rfl⟩
            replace H : (laws_expr.l1 k1 y108 l0_0 (l0_0.length : Int) x15_1 (rd_L3 l0_0 x15_1) ((rd_L3 l0_0 x15_1).length : Int) 0 x107000_1 a0_1) = some (r1, r2) := by first | (rw [hy108]; with_reducible exact H) | (have H2_ := (Option.bind_some _ _).symm.trans H; rw [hy108]; with_reducible exact H2_) | (have H2_ := (Option.bind_some _ _).symm.trans H; with_reducible exact H2_) | with_reducible exact H | (rw [hy108]; exact H) | exact H
            have Ny108 := Aside0.mk hy108
            clear hy108
            have H' := Aside0.mk H
            clear H
            have p107 : 0 ≤ (x15_1 : Int) := of_decide_eq_true (by first | (with_reducible assumption) | assumption)
            have q107 : x15_1 < (l0_0.length : Int) := of_decide_eq_true (by first | (with_reducible assumption) | assumption)
            obtain ⟨ad107, A107_0, c107_0, e107, hx107_0, hl107_0, hi107_0⟩ := at_L3 HR0_0.out x15_1 p107 q107
            cases e107
            replace hx107_0 := (HB.out.cell (World.block_lt_of_cell? w _ hx107_0)).trans hx107_0
            have HR107_0 := Aside0.mk hi107_0
            have HC107_0 := Aside0.mk hl107_0
            clear hi107_0 hl107_0
            replace p107 := eq_true p107
            replace q107 := eq_true q107
            go_wp2_with (first | ((with_reducible refine gate_dst (N := 19) rfl ?_); refine Kd.R_lit k38 _ 38 ?hg (N := 19) ?hd (xs := ([] : List (S38))) (inner := []) (ok := fun _ => True) (okp := fun _ => True) ?hr ?hp (fun _ hk => hk) trivial (Below.refl _ _) (Nat.le_refl _) (by simp) ?_; (case hd => rfl); (case hg => rfl); (case hr => first | (go_simp; done) | (go_simp; rfl)); (case hp => exact (Reps.none _ _)); intro v109 w14 ho15 hb hg_ hnew_; clear hg_ hnew_; (first | rw [← Ny108.out] at ho15 | (simp only [Int.reduceToNat] at ho15; rw [← Ny108.out] at ho15)); have n0_ := Aside0.mk (Kd.S_elder' (by (with_reducible repeat (first | apply Kd.S_alloc | apply Kd.S_drewN | apply Kd.S_drew)); exact HO_107000.out) (Kd.R_base ho15) hb); have n1_ := Aside0.mk (Kd.R_lower ho15 (below_size (by repeat (first | (with_reducible first | exact HB.out | apply below_alloc | apply pw_below_drewN | apply below_drew1 | refine below_set ?_ GE104.out | refine below_set ?_ GE105.out | refine below_set ?_ GE106.out) | exact HB.out)))); have n2_ := Aside0.mk (blk_below (g := gb104) (o := .cells #[.slice (some ad107) l0_0.length c0_0, .bool a0_1] 24 (0, 0)) (by (with_reducible repeat (first | refine blk_drewN ?_ _ | refine blk_drew ?_ | refine blk_alloc ?_ _)); exact BK104.out) hb); have n3_ := Aside0.mk (blk_below (g := gb105) (o := .cells #[.slice none 0 0, .bool false] 30 (0, 0)) (by (with_reducible repeat (first | refine blk_drewN ?_ _ | refine blk_drew ?_ | refine blk_alloc ?_ _)); exact BK105.out) hb); have n4_ := Aside0.mk (blk_below (g := gb106) (o := .cells #[u107000, .bool a0_1] 30 (0, 0)) (by (with_reducible repeat (first | refine blk_drewN ?_ _ | refine blk_drew ?_ | refine blk_alloc ?_ _)); exact BK106.out) hb); have n5_ := Aside0.mk (below_step (by repeat (first | (with_reducible first | exact HB.out | apply below_alloc | apply pw_below_drewN | apply below_drew1 | refine below_set ?_ GE104.out | refine below_set ?_ GE105.out | refine below_set ?_ GE106.out) | exact HB.out)) hb); clear HO_107000; clear BK104; clear BK105; clear BK106; clear HB; have HO_107000 := n0_; have HO110 := n1_; have BK104 := n2_; have BK105 := n3_; have BK106 := n4_; have HB := n5_; clear n0_ n1_ n2_ n3_ n4_ n5_; clear hb ho15))
            go_loopg [6, 22] k1 (fun kq v6 v22 w' => ∃ (x6_2 : List (S38)) (x22_2 : Int), v22 = .int .i64 x22_2 ∧ Aside0 (laws_expr.l1 kq x6_2 l0_0 (l0_0.length : Int) x15_1 (rd_L3 l0_0 x15_1) ((rd_L3 l0_0 x15_1).length : Int) x22_2 x107000_1 a0_1 = some (r1, r2)) ∧ Aside0 (kq ≤ k1) ∧ Aside0 (Kd.R k38 38 w' w.heap.size (fun _ => True) v6 x6_2) ∧ Aside0 (Kd.S (Kd.slice 38 k38) 36 w' w.heap.size (fun k_ => some k_ ≠ (v6 : Value).ownBlock) u107000 x107000_1) ∧ Aside0 (w'.heap[gb104]? = some (.cells #[(.slice (some ad107) l0_0.length c0_0), .bool a0_1] 24 (0, 0))) ∧ Aside0 (w'.heap[gb105]? = some (.cells #[(.slice none 0 0), .bool false] 30 (0, 0))) ∧ Aside0 (w'.heap[gb106]? = some (.cells #[u107000, .bool a0_1] 30 (0, 0))) ∧ Aside0 (Below w.heap.size w w'))
            case atStart => exact ⟨(y108), (0), (by first | rfl | (simp; done) | (simp [*]; done)), H', ⟨Nat.le_refl _⟩, ⟨by (with_reducible repeat (first | apply Kd.R_alloc | apply Kd.R_drewN | apply Kd.R_drew)); exact HO110.out⟩, ⟨by (with_reducible repeat (first | apply Kd.S_alloc | apply Kd.S_drewN | apply Kd.S_drew)); exact Kd.S_mono HO_107000.out (fun _ hk => hk.2)⟩, ⟨by (with_reducible repeat (first | refine blk_drewN ?_ _ | refine blk_drew ?_ | refine blk_alloc ?_ _)); exact BK104.out⟩, ⟨by (with_reducible repeat (first | refine blk_drewN ?_ _ | refine blk_drew ?_ | refine blk_alloc ?_ _)); exact BK105.out⟩, ⟨by (with_reducible repeat (first | refine blk_drewN ?_ _ | refine blk_drew ?_ | refine blk_alloc ?_ _)); exact BK106.out⟩, ⟨by repeat (first | (with_reducible first | exact HB.out | apply below_alloc | apply pw_below_drewN | apply below_drew1 | refine below_set ?_ GE104.out | refine below_set ?_ GE105.out | refine below_set ?_ GE106.out) | exact HB.out)⟩⟩
            case round =>
              clear H'
              try clear c1
              try clear p1
              try clear q1
              try clear hx1
              try clear p2
              try clear c4
              try clear c7
              try clear c8
              try clear c10
              try clear p10
              try clear q10
              try clear hx10
              try clear c11
              try clear c11b0
              try clear c12
              try clear c12b0
              try clear c13
              try clear c13b0
              try clear hcz10_0
              try clear hcz10_1
              try clear hcz5_0
              try clear hcz5_1
              try clear hcz9_0
              try clear hcz9_1
              try clear hfz10_0
              try clear hfz10_1
              try clear hfz5_0
              try clear hfz5_1
              try clear hfz9_0
              try clear hfz9_1
              try clear hx107_0
              try clear p107
              try clear p2
              try clear q107
              obtain ⟨x6_2, x22_2, rfl, HA, HK2, HO_6, HO_107000, BK104, BK105, BK106, HB⟩ := hrel
              cases gk with
              | zero => exact absurd HA.out (by simp [laws_expr.l1])
              | succ k2 =>
                have H := HA.out
                clear HA
                simp only [laws_expr.l1] at H
                by_cases c16 : x22_2 < ((rd_L3 l0_0 x15_1).length : Int)
                · rw [if_pos c16] at H
                  have c16b0 : decide (x22_2 < ((rd_L3 l0_0 x15_1).length : Int)) = true := decide_eq_true c16
                  clear c16
                  by_cases c17 : 0 ≤ x22_2
                  · rw [if_pos c17] at H
                    have c17b0 : decide (0 ≤ x22_2) = true := decide_eq_true c17
                    clear c17
                    by_cases c18 : x22_2 < ((rd_L3 l0_0 x15_1).length : Int)
                    · rw [if_pos c18] at H
                      have c18b0 : decide (x22_2 < ((rd_L3 l0_0 x15_1).length : Int)) = true := decide_eq_true c18
                      clear c18
                      by_cases c19 : x6_2.length < 4398046511104
                      · rw [if_pos c19] at H
                        have LMc19 := Aside0.mk c19
                        clear c19
                        obtain ⟨y113, hy113⟩ : ∃ y_ : List (S38), y_ = (x6_2 ++ [(⟨(rd_T69 (rd_L3 l0_0 x15_1) x22_2).f0, (rd_T69 (rd_L3 l0_0 x15_1) x22_2).f1, (rd_T69 (rd_L3 l0_0 x15_1) x22_2).f2, (rd_T69 (rd_L3 l0_0 x15_1) x22_2).f3⟩ : S38)]) := ⟨_, rfl⟩
                        replace H : (laws_expr.l1 k2 y113 l0_0 (l0_0.length : Int) x15_1 (rd_L3 l0_0 x15_1) ((rd_L3 l0_0 x15_1).length : Int) (wrap64 (x22_2 + 1)) x107000_1 a0_1) = some (r1, r2) := by first | (rw [hy113]; with_reducible exact H) | (have H2_ := (Option.bind_some _ _).symm.trans H; rw [hy113]; with_reducible exact H2_) | (have H2_ := (Option.bind_some _ _).symm.trans H; with_reducible exact H2_) | with_reducible exact H | (rw [hy113]; exact H) | exact H
                        have Ny113 := Aside0.mk hy113
                        clear hy113
                        have H' := Aside0.mk H
                        clear H
                        have p111 : 0 ≤ (x22_2 : Int) := of_decide_eq_true (by first | (with_reducible assumption) | assumption)
                        have q111 : x22_2 < ((rd_L3 l0_0 x15_1).length : Int) := of_decide_eq_true (by first | (with_reducible assumption) | assumption)
                        obtain ⟨ad111, e111, hx111_0, hx111_1, hx111_2, hx111_3⟩ := at_T69 HR107_0.out x22_2 p111 q111
                        cases e111
                        replace hx111_0 := (HB.out.cell (World.block_lt_of_cell? w _ hx111_0)).trans hx111_0
                        replace hx111_1 := (HB.out.cell (World.block_lt_of_cell? w _ hx111_1)).trans hx111_1
                        replace hx111_2 := (HB.out.cell (World.block_lt_of_cell? w _ hx111_2)).trans hx111_2
                        replace hx111_3 := (HB.out.cell (World.block_lt_of_cell? w _ hx111_3)).trans hx111_3
                        replace p111 := eq_true p111
                        replace q111 := eq_true q111
                        go_wp2_with (first | ((with_reducible refine gate_dst (N := 8) rfl ?_); refine box_event ?hg (N := 8) ?hd (cs := #[.bool false, .int .i64 0, .int .i64 0, .int .i64 0]) (t := 69) ?hr ?_; (case hd => rfl); (case hg => rfl); (case hr => first | (go_simp; done) | (go_simp; rfl)); intro gb112 hg w20 hbox hb; have n0_ := Aside0.mk (Kd.R_below (by (with_reducible repeat (first | apply Kd.R_alloc | apply Kd.R_drewN | apply Kd.R_drew)); exact HO_6.out) hb); have n1_ := Aside0.mk (Kd.S_below (by (with_reducible repeat (first | apply Kd.S_alloc | apply Kd.S_drewN | apply Kd.S_drew)); exact HO_107000.out) hb); have n2_ := Aside0.mk (blk_below (g := gb104) (o := .cells #[.slice (some ad107) l0_0.length c0_0, .bool a0_1] 24 (0, 0)) (by (with_reducible repeat (first | refine blk_drewN ?_ _ | refine blk_drew ?_ | refine blk_alloc ?_ _)); exact BK104.out) hb); have n3_ := Aside0.mk (blk_below (g := gb105) (o := .cells #[.slice none 0 0, .bool false] 30 (0, 0)) (by (with_reducible repeat (first | refine blk_drewN ?_ _ | refine blk_drew ?_ | refine blk_alloc ?_ _)); exact BK105.out) hb); have n4_ := Aside0.mk (blk_below (g := gb106) (o := .cells #[u107000, .bool a0_1] 30 (0, 0)) (by (with_reducible repeat (first | refine blk_drewN ?_ _ | refine blk_drew ?_ | refine blk_alloc ?_ _)); exact BK106.out) hb); have n5_ := Aside0.mk (below_step (by repeat (first | (with_reducible first | exact HB.out | apply below_alloc | apply pw_below_drewN | apply below_drew1 | refine below_set ?_ GE104.out | refine below_set ?_ GE105.out | refine below_set ?_ GE106.out) | exact HB.out)) hb); have n6_ := Aside0.mk (hbox); have n7_ := Aside0.mk ((by rw [hg]; exact (below_size (by repeat (first | (with_reducible first | exact HB.out | apply below_alloc | apply pw_below_drewN | apply below_drew1 | refine below_set ?_ GE104.out | refine below_set ?_ GE105.out | refine below_set ?_ GE106.out) | exact HB.out))) : w.heap.size ≤ gb112)); have n8_ := Aside0.mk ((by rw [hg]; exact (below_size (by repeat (first | (with_reducible first | exact HB.out | apply below_alloc | apply pw_below_drewN | apply below_drew1 | refine below_set ?_ GE104.out | refine below_set ?_ GE105.out | refine below_set ?_ GE106.out) | exact HB.out))) : w.heap.size ≤ gb112)); have n9_ := Aside0.mk ((by rw [hg]; exact Nat.ne_of_lt (blk_lt (g := gb104) (o := .cells #[.slice (some ad107) l0_0.length c0_0, .bool a0_1] 24 (0, 0)) (by (with_reducible repeat (first | refine blk_drewN ?_ _ | refine blk_drew ?_ | refine blk_alloc ?_ _)); exact BK104.out)) : gb104 ≠ gb112)); have n10_ := Aside0.mk ((by rw [hg]; exact Nat.ne_of_gt (blk_lt (g := gb104) (o := .cells #[.slice (some ad107) l0_0.length c0_0, .bool a0_1] 24 (0, 0)) (by (with_reducible repeat (first | refine blk_drewN ?_ _ | refine blk_drew ?_ | refine blk_alloc ?_ _)); exact BK104.out)) : gb112 ≠ gb104)); have n11_ := Aside0.mk ((by rw [hg]; exact Nat.ne_of_lt (blk_lt (g := gb105) (o := .cells #[.slice none 0 0, .bool false] 30 (0, 0)) (by (with_reducible repeat (first | refine blk_drewN ?_ _ | refine blk_drew ?_ | refine blk_alloc ?_ _)); exact BK105.out)) : gb105 ≠ gb112)); have n12_ := Aside0.mk ((by rw [hg]; exact Nat.ne_of_gt (blk_lt (g := gb105) (o := .cells #[.slice none 0 0, .bool false] 30 (0, 0)) (by (with_reducible repeat (first | refine blk_drewN ?_ _ | refine blk_drew ?_ | refine blk_alloc ?_ _)); exact BK105.out)) : gb112 ≠ gb105)); have n13_ := Aside0.mk ((by rw [hg]; exact Nat.ne_of_lt (blk_lt (g := gb106) (o := .cells #[u107000, .bool a0_1] 30 (0, 0)) (by (with_reducible repeat (first | refine blk_drewN ?_ _ | refine blk_drew ?_ | refine blk_alloc ?_ _)); exact BK106.out)) : gb106 ≠ gb112)); have n14_ := Aside0.mk ((by rw [hg]; exact Nat.ne_of_gt (blk_lt (g := gb106) (o := .cells #[u107000, .bool a0_1] 30 (0, 0)) (by (with_reducible repeat (first | refine blk_drewN ?_ _ | refine blk_drew ?_ | refine blk_alloc ?_ _)); exact BK106.out)) : gb112 ≠ gb106)); clear HO_6; clear HO_107000; clear BK104; clear BK105; clear BK106; clear HB; have HO_6 := n0_; have HO_107000 := n1_; have BK104 := n2_; have BK105 := n3_; have BK106 := n4_; have HB := n5_; have BK112 := n6_; have GW112 := n7_; have GE112 := n8_; have NB104_112 := n9_; have NB112_104 := n10_; have NB105_112 := n11_; have NB112_105 := n12_; have NB106_112 := n13_; have NB112_106 := n14_; clear n0_ n1_ n2_ n3_ n4_ n5_ n6_ n7_ n8_ n9_ n10_ n11_ n12_ n13_ n14_; clear hb hbox hg; have hnb21 := NB112_104.out; have hnc21 := NB104_112.out; have hnb22 := NB112_105.out; have hnc22 := NB105_112.out; have hnb23 := NB112_106.out; have hnc23 := NB106_112.out; have hcz24_0 : w20.cell? ⟨gb112, 0, none⟩ = some (.bool false) := (blk_cell BK112.out 0).trans rfl; have hcz24_1 : w20.cell? ⟨gb112, 1, none⟩ = some (.int .i64 0) := (blk_cell BK112.out 1).trans rfl; have hcz24_2 : w20.cell? ⟨gb112, 2, none⟩ = some (.int .i64 0) := (blk_cell BK112.out 2).trans rfl; have hcz24_3 : w20.cell? ⟨gb112, 3, none⟩ = some (.int .i64 0) := (blk_cell BK112.out 3).trans rfl; have hfz24_0 := blk_frozen BK112.out 0; have hfz24_1 := blk_frozen BK112.out 1; have hfz24_2 := blk_frozen BK112.out 2; have hfz24_3 := blk_frozen BK112.out 3) | ((with_reducible refine gate_builtin (b := .append) (xs := #[.tmp 26, .tmp 36]) rfl ?_); at_builtin; refine Kd.R_append k38 (w0 := w) w.heap.size rfl (.tmp 26) (.tmp 36) 36 38 (.agg #[(.bool false), (.int .i64 0), (.int .i64 0), (.int .i64 0)]) 32 rfl Tryz.underlying36 info38 rfl (by decide) (by omega) u6 x6_2 (⟨(rd_T69 (rd_L3 l0_0 x15_1) x22_2).f0, (rd_T69 (rd_L3 l0_0 x15_1) x22_2).f1, (rd_T69 (rd_L3 l0_0 x15_1) x22_2).f2, (rd_T69 (rd_L3 l0_0 x15_1) x22_2).f3⟩ : S38) [.bool ((rd_T69 (rd_L3 l0_0 x15_1) x22_2).f0), .int .i64 ((rd_T69 (rd_L3 l0_0 x15_1) x22_2).f1), .int .i64 ((rd_T69 (rd_L3 l0_0 x15_1) x22_2).f2), .int .i64 ((rd_T69 (rd_L3 l0_0 x15_1) x22_2).f3)] (fun _ => True) (fun _ => False) rfl (by first | (go_simp; done) | (go_simp; rfl)) ?aP (fun _ hk => hk.elim) ?aF ?aO ?aB ?aS ?aL ?_; (case aP => exact k38_mkM _ _ _ (⟨(rd_T69 (rd_L3 l0_0 x15_1) x22_2).f0, (rd_T69 (rd_L3 l0_0 x15_1) x22_2).f1, (rd_T69 (rd_L3 l0_0 x15_1) x22_2).f2, (rd_T69 (rd_L3 l0_0 x15_1) x22_2).f3⟩ : S38)); (case aB => exact (by repeat (first | (with_reducible first | exact HB.out | apply below_alloc | apply pw_below_drewN | apply below_drew1 | refine below_set ?_ GE104.out | refine below_set ?_ GE105.out | refine below_set ?_ GE106.out | refine below_set ?_ GE112.out) | exact HB.out))); (case aF => exact (fun _ _ => trivial)); (case aO => exact (by (with_reducible repeat (first | apply Kd.R_alloc | apply Kd.R_drewN | apply Kd.R_drew)); exact Kd.R_mono (Kd.R_far (p := ⟨gb112, 3, none⟩) (Kd.R_far (p := ⟨gb112, 2, none⟩) (Kd.R_far (p := ⟨gb112, 1, none⟩) (Kd.R_far (p := ⟨gb112, 0, none⟩) (Kd.R_types HO_6.out BK112.out (by decide)) (fun _ hk => hk.2) (.bool ((rd_T69 (rd_L3 l0_0 x15_1) x22_2).f0))) (fun _ hk => hk.2) (.int .i64 ((rd_T69 (rd_L3 l0_0 x15_1) x22_2).f1))) (fun _ hk => hk.2) (.int .i64 ((rd_T69 (rd_L3 l0_0 x15_1) x22_2).f2))) (fun _ hk => hk.2) (.int .i64 ((rd_T69 (rd_L3 l0_0 x15_1) x22_2).f3))) (fun _ hk => trivial))); (case aS => exact (below_size (by repeat (first | (with_reducible first | exact HB.out | apply below_alloc | apply pw_below_drewN | apply below_drew1 | refine below_set ?_ GE104.out | refine below_set ?_ GE105.out | refine below_set ?_ GE106.out | refine below_set ?_ GE112.out) | exact HB.out)))); (case aL => have := LMc19.out; omega); intro v114 w25 ho hb hg hat; rw [← Ny113.out] at ho; have n0_ := Aside0.mk (Kd.S_after (ok := (fun _ => True)) (by (with_reducible repeat (first | apply Kd.S_alloc | apply Kd.S_drewN | apply Kd.S_drew)); exact Kd.S_mono (Kd.S_far (p := ⟨gb112, 3, none⟩) (Kd.S_far (p := ⟨gb112, 2, none⟩) (Kd.S_far (p := ⟨gb112, 1, none⟩) (Kd.S_far (p := ⟨gb112, 0, none⟩) (Kd.S_types HO_107000.out BK112.out (by decide)) (fun _ hk => hk.2) (.bool ((rd_T69 (rd_L3 l0_0 x15_1) x22_2).f0))) (fun _ hk => hk.2) (.int .i64 ((rd_T69 (rd_L3 l0_0 x15_1) x22_2).f1))) (fun _ hk => hk.2) (.int .i64 ((rd_T69 (rd_L3 l0_0 x15_1) x22_2).f2))) (fun _ hk => hk.2) (.int .i64 ((rd_T69 (rd_L3 l0_0 x15_1) x22_2).f3))) (fun _ hk => ⟨trivial, hk.1⟩)) hg hat); have n1_ := Aside0.mk (blk_grown (g := gb104) (o := .cells #[.slice (some ad107) l0_0.length c0_0, .bool a0_1] 24 (0, 0)) (by (with_reducible repeat (first | refine blk_drewN ?_ _ | refine blk_drew ?_ | refine blk_alloc ?_ _)); refine blk_far ?_ NB104_112.out _; (with_reducible repeat (first | refine blk_drewN ?_ _ | refine blk_drew ?_ | refine blk_alloc ?_ _)); refine blk_far ?_ NB104_112.out _; (with_reducible repeat (first | refine blk_drewN ?_ _ | refine blk_drew ?_ | refine blk_alloc ?_ _)); refine blk_far ?_ NB104_112.out _; (with_reducible repeat (first | refine blk_drewN ?_ _ | refine blk_drew ?_ | refine blk_alloc ?_ _)); refine blk_far ?_ NB104_112.out _; (with_reducible repeat (first | refine blk_drewN ?_ _ | refine blk_drew ?_ | refine blk_alloc ?_ _)); exact BK104.out) hg (Kd.R_ne HO_6.out BK104.out (by decide))); have n2_ := Aside0.mk (blk_grown (g := gb105) (o := .cells #[.slice none 0 0, .bool false] 30 (0, 0)) (by (with_reducible repeat (first | refine blk_drewN ?_ _ | refine blk_drew ?_ | refine blk_alloc ?_ _)); refine blk_far ?_ NB105_112.out _; (with_reducible repeat (first | refine blk_drewN ?_ _ | refine blk_drew ?_ | refine blk_alloc ?_ _)); refine blk_far ?_ NB105_112.out _; (with_reducible repeat (first | refine blk_drewN ?_ _ | refine blk_drew ?_ | refine blk_alloc ?_ _)); refine blk_far ?_ NB105_112.out _; (with_reducible repeat (first | refine blk_drewN ?_ _ | refine blk_drew ?_ | refine blk_alloc ?_ _)); refine blk_far ?_ NB105_112.out _; (with_reducible repeat (first | refine blk_drewN ?_ _ | refine blk_drew ?_ | refine blk_alloc ?_ _)); exact BK105.out) hg (Kd.R_ne HO_6.out BK105.out (by decide))); have n3_ := Aside0.mk (blk_grown (g := gb106) (o := .cells #[u107000, .bool a0_1] 30 (0, 0)) (by (with_reducible repeat (first | refine blk_drewN ?_ _ | refine blk_drew ?_ | refine blk_alloc ?_ _)); refine blk_far ?_ NB106_112.out _; (with_reducible repeat (first | refine blk_drewN ?_ _ | refine blk_drew ?_ | refine blk_alloc ?_ _)); refine blk_far ?_ NB106_112.out _; (with_reducible repeat (first | refine blk_drewN ?_ _ | refine blk_drew ?_ | refine blk_alloc ?_ _)); refine blk_far ?_ NB106_112.out _; (with_reducible repeat (first | refine blk_drewN ?_ _ | refine blk_drew ?_ | refine blk_alloc ?_ _)); refine blk_far ?_ NB106_112.out _; (with_reducible repeat (first | refine blk_drewN ?_ _ | refine blk_drew ?_ | refine blk_alloc ?_ _)); exact BK106.out) hg (Kd.R_ne HO_6.out BK106.out (by decide))); have n4_ := Aside0.mk (blk_grown (g := gb112) (o := .cells #[.bool ((rd_T69 (rd_L3 l0_0 x15_1) x22_2).f0), .int .i64 ((rd_T69 (rd_L3 l0_0 x15_1) x22_2).f1), .int .i64 ((rd_T69 (rd_L3 l0_0 x15_1) x22_2).f2), .int .i64 ((rd_T69 (rd_L3 l0_0 x15_1) x22_2).f3)] 69 (0, 0)) (by (with_reducible repeat (first | refine blk_drewN ?_ _ | refine blk_drew ?_ | refine blk_alloc ?_ _)); refine blk_put (cs := #[.bool ((rd_T69 (rd_L3 l0_0 x15_1) x22_2).f0), .int .i64 ((rd_T69 (rd_L3 l0_0 x15_1) x22_2).f1), .int .i64 ((rd_T69 (rd_L3 l0_0 x15_1) x22_2).f2), .int .i64 0]) ?_ 3 _ rfl; (with_reducible repeat (first | refine blk_drewN ?_ _ | refine blk_drew ?_ | refine blk_alloc ?_ _)); refine blk_put (cs := #[.bool ((rd_T69 (rd_L3 l0_0 x15_1) x22_2).f0), .int .i64 ((rd_T69 (rd_L3 l0_0 x15_1) x22_2).f1), .int .i64 0, .int .i64 0]) ?_ 2 _ rfl; (with_reducible repeat (first | refine blk_drewN ?_ _ | refine blk_drew ?_ | refine blk_alloc ?_ _)); refine blk_put (cs := #[.bool ((rd_T69 (rd_L3 l0_0 x15_1) x22_2).f0), .int .i64 0, .int .i64 0, .int .i64 0]) ?_ 1 _ rfl; (with_reducible repeat (first | refine blk_drewN ?_ _ | refine blk_drew ?_ | refine blk_alloc ?_ _)); refine blk_put (cs := #[.bool false, .int .i64 0, .int .i64 0, .int .i64 0]) ?_ 0 _ rfl; (with_reducible repeat (first | refine blk_drewN ?_ _ | refine blk_drew ?_ | refine blk_alloc ?_ _)); exact BK112.out) hg (Kd.R_ne HO_6.out BK112.out (by decide))); have n5_ := Aside0.mk (hb); have n6_ := Aside0.mk (ho); clear HO_107000; clear BK104; clear BK105; clear BK106; clear BK112; clear HB; clear HO_6; have HO_107000 := n0_; have BK104 := n1_; have BK105 := n2_; have BK106 := n3_; have BK112 := n4_; have HB := n5_; have HO115 := n6_; clear n0_ n1_ n2_ n3_ n4_ n5_ n6_; clear ho hb hg hat))
                        go_roundg k2
                        case measure => have := HK1.out; have := HK2.out; omega
                        case rel => exact ⟨(y113), (wrap64 (x22_2 + 1)), (by first | rfl | (simp; done) | (simp [*]; done)), H', ⟨by have := HK1.out; have := HK2.out; omega⟩, ⟨by (with_reducible repeat (first | apply Kd.R_alloc | apply Kd.R_drewN | apply Kd.R_drew)); exact HO115.out⟩, ⟨by (with_reducible repeat (first | apply Kd.S_alloc | apply Kd.S_drewN | apply Kd.S_drew)); exact Kd.S_mono HO_107000.out (fun _ hk => hk.2)⟩, ⟨by (with_reducible repeat (first | refine blk_drewN ?_ _ | refine blk_drew ?_ | refine blk_alloc ?_ _)); exact BK104.out⟩, ⟨by (with_reducible repeat (first | refine blk_drewN ?_ _ | refine blk_drew ?_ | refine blk_alloc ?_ _)); exact BK105.out⟩, ⟨by (with_reducible repeat (first | refine blk_drewN ?_ _ | refine blk_drew ?_ | refine blk_alloc ?_ _)); exact BK106.out⟩, ⟨by repeat (first | (with_reducible first | exact HB.out | apply below_alloc | apply pw_below_drewN | apply below_drew1 | refine below_set ?_ GE104.out | refine below_set ?_ GE105.out | refine below_set ?_ GE106.out | refine below_set ?_ GE112.out) | exact HB.out)⟩⟩
                      · rw [if_neg c19] at H
                        exact absurd H (by simp)
                    · rw [if_neg c18] at H
                      exact absurd H (by simp)
                  · rw [if_neg c17] at H
                    exact absurd H (by simp)
                · rw [if_neg c16] at H
                  have c16b0 : decide (x22_2 < ((rd_L3 l0_0 x15_1).length : Int)) = false := decide_eq_false c16
                  clear c16
                  by_cases c26 : x107000_1.length < 5864062014805
                  · rw [if_pos c26] at H
                    have LMc26 := Aside0.mk c26
                    clear c26
                    obtain ⟨y116, hy116⟩ : ∃ y_ : List (List (S38)), y_ = (x107000_1 ++ [x6_2]) := ⟨_, rfl⟩
                    replace H : (laws_expr.l0 k2 l0_0 (l0_0.length : Int) (wrap64 (x15_1 + 1)) y116 a0_1) = some (r1, r2) := by first | (rw [hy116]; with_reducible exact H) | (have H2_ := (Option.bind_some _ _).symm.trans H; rw [hy116]; with_reducible exact H2_) | (have H2_ := (Option.bind_some _ _).symm.trans H; with_reducible exact H2_) | with_reducible exact H | (rw [hy116]; exact H) | exact H
                    have Ny116 := Aside0.mk hy116
                    clear hy116
                    have H' := Aside0.mk H
                    clear H
                    have hnb27 := NB106_104.out
                    have hnc27 := NB104_106.out
                    have hnb28 := NB106_105.out
                    have hnc28 := NB105_106.out
                    have hcz29_0 : wr.cell? ⟨gb106, 0, none⟩ = some (u107000) := (blk_cell BK106.out 0).trans rfl
                    have hcz29_1 : wr.cell? ⟨gb106, 1, none⟩ = some (.bool a0_1) := (blk_cell BK106.out 1).trans rfl
                    have hfz29_0 := blk_frozen BK106.out 0
                    have hfz29_1 := blk_frozen BK106.out 1
                    obtain ⟨Ao31, co31, eo31⟩ := Kd.R_slice HO_6.out
                    subst eo31
                    go_wp2_with (first | ((with_reducible refine gate_builtin (b := .append) (xs := #[.tmp 40, .tmp 42]) rfl ?_); at_builtin; refine Kd.S_append (Kd.slice 38 k38) (w0 := w) w.heap.size rfl (.tmp 40) (.tmp 42) 28 36 (.slice none 0 0) 24 rfl Tryz.underlying28 info36 rfl (by decide) (by omega) u107000 x107000_1 x6_2 [.slice Ao31 x6_2.length co31] (fun _ => True) (fun k_ => some k_ = (.slice Ao31 x6_2.length co31 : Value).ownBlock) rfl rfl ?aP (fun k_ hk_ => ((Kd.R_mono (ok' := fun k_ => ((fun _ => True)) k_ ∧ some k_ ≠ (u107000 : Value).ownBlock) (Kd.R_apart' (HO_6.out) (Kd.S_typed HO_107000.out) (by decide)) (fun k_ hk => ⟨trivial, hk.2⟩))).1 k_ hk_.symm) ?aF ?aO ?aB ?aS ?aL ?_; (case aP => exact Kd.M_row (Kd.R_mono (Kd.R_tight rfl (Kd.R_mono (ok' := fun k_ => ((fun _ => True)) k_ ∧ some k_ ≠ (u107000 : Value).ownBlock) (Kd.R_apart' (HO_6.out) (Kd.S_typed HO_107000.out) (by decide)) (fun k_ hk => ⟨trivial, hk.2⟩))) (fun _ h_ => h_))); (case aB => exact (by repeat (first | (with_reducible first | exact HB.out | apply below_alloc | apply pw_below_drewN | apply below_drew1 | refine below_set ?_ GE104.out | refine below_set ?_ GE105.out | refine below_set ?_ GE106.out) | exact HB.out))); (case aF => exact (fun _ _ => trivial)); (case aO => exact (by (with_reducible repeat (first | apply Kd.S_alloc | apply Kd.S_drewN | apply Kd.S_drew)); exact Kd.S_mono HO_107000.out (fun k_ hk => ⟨trivial, fun e_ => hk e_⟩))); (case aS => exact (below_size (by repeat (first | (with_reducible first | exact HB.out | apply below_alloc | apply pw_below_drewN | apply below_drew1 | refine below_set ?_ GE104.out | refine below_set ?_ GE105.out | refine below_set ?_ GE106.out) | exact HB.out)))); (case aL => have := LMc26.out; omega); intro v117 w30 ho hb hg hat; rw [← Ny116.out] at ho; have n0_ := Aside0.mk (blk_grown (g := gb104) (o := .cells #[.slice (some ad107) l0_0.length c0_0, .bool a0_1] 24 (0, 0)) (by (with_reducible repeat (first | refine blk_drewN ?_ _ | refine blk_drew ?_ | refine blk_alloc ?_ _)); exact BK104.out) hg (Kd.S_ne HO_107000.out BK104.out (by decide))); have n1_ := Aside0.mk (blk_grown (g := gb105) (o := .cells #[.slice none 0 0, .bool false] 30 (0, 0)) (by (with_reducible repeat (first | refine blk_drewN ?_ _ | refine blk_drew ?_ | refine blk_alloc ?_ _)); exact BK105.out) hg (Kd.S_ne HO_107000.out BK105.out (by decide))); have n2_ := Aside0.mk (blk_grown (g := gb106) (o := .cells #[u107000, .bool a0_1] 30 (0, 0)) (by (with_reducible repeat (first | refine blk_drewN ?_ _ | refine blk_drew ?_ | refine blk_alloc ?_ _)); exact BK106.out) hg (Kd.S_ne HO_107000.out BK106.out (by decide))); have n3_ := Aside0.mk (hb); have n4_ := Aside0.mk (ho); clear BK104; clear BK105; clear BK106; clear HB; clear HO_107000; clear HO_6; have BK104 := n0_; have BK105 := n1_; have BK106 := n2_; have HB := n3_; have HO118 := n4_; clear n0_ n1_ n2_ n3_ n4_; clear ho hb hg hat; obtain ⟨Ao32, co32, eo32⟩ := Kd.S_slice HO118.out; subst eo32; have hcz33_0 : w30.cell? ⟨gb106, 0, none⟩ = some (u107000) := (blk_cell BK106.out 0).trans rfl; have hcz33_1 : w30.cell? ⟨gb106, 1, none⟩ = some (.bool a0_1) := (blk_cell BK106.out 1).trans rfl; have hfz33_0 := blk_frozen BK106.out 0; have hfz33_1 := blk_frozen BK106.out 1))
                    go_roundg k2
                    case measure => have := HK1.out; have := HK2.out; omega
                    case rel => exact ⟨(wrap64 (x15_1 + 1)), (y116), (.slice Ao32 y116.length co32), (by first | rfl | (simp; done) | (simp [*]; done)), H', ⟨by have := HK1.out; have := HK2.out; omega⟩, ⟨by (with_reducible repeat (first | apply Kd.S_alloc | apply Kd.S_drewN | apply Kd.S_drew)); exact Kd.S_mono (Kd.S_far (p := ⟨gb106, 0, none⟩) (Kd.S_types HO118.out BK106.out (by decide)) (fun _ hk => hk.2) (.slice Ao32 y116.length co32)) (fun _ hk => trivial)⟩, ⟨by (with_reducible repeat (first | refine blk_drewN ?_ _ | refine blk_drew ?_ | refine blk_alloc ?_ _)); refine blk_far ?_ NB104_106.out _; (with_reducible repeat (first | refine blk_drewN ?_ _ | refine blk_drew ?_ | refine blk_alloc ?_ _)); exact BK104.out⟩, ⟨by (with_reducible repeat (first | refine blk_drewN ?_ _ | refine blk_drew ?_ | refine blk_alloc ?_ _)); refine blk_far ?_ NB105_106.out _; (with_reducible repeat (first | refine blk_drewN ?_ _ | refine blk_drew ?_ | refine blk_alloc ?_ _)); exact BK105.out⟩, ⟨by (with_reducible repeat (first | refine blk_drewN ?_ _ | refine blk_drew ?_ | refine blk_alloc ?_ _)); refine blk_put (cs := #[u107000, .bool a0_1]) ?_ 0 _ rfl; (with_reducible repeat (first | refine blk_drewN ?_ _ | refine blk_drew ?_ | refine blk_alloc ?_ _)); exact BK106.out⟩, ⟨by repeat (first | (with_reducible first | exact HB.out | apply below_alloc | apply pw_below_drewN | apply below_drew1 | refine below_set ?_ GE104.out | refine below_set ?_ GE105.out | refine below_set ?_ GE106.out) | exact HB.out)⟩⟩
                  · rw [if_neg c26] at H
                    exact absurd H (by simp)
          · rw [if_neg c13] at H
            exact absurd H (by simp)
        · rw [if_neg c12] at H
          exact absurd H (by simp)
      · rw [if_neg c11] at H
        have c11b0 : decide (x15_1 < (l0_0.length : Int)) = false := decide_eq_false c11
        clear c11
        simp only [Option.some.injEq, Prod.mk.injEq] at H
        obtain ⟨rfl, rfl⟩ := H
        have hnb34 := NB106_104.out
        have hnc34 := NB104_106.out
        have hnb35 := NB106_105.out
        have hnc35 := NB105_106.out
        have hcz36_0 : wr.cell? ⟨gb106, 0, none⟩ = some (u107000) := (blk_cell BK106.out 0).trans rfl
        have hcz36_1 : wr.cell? ⟨gb106, 1, none⟩ = some (.bool a0_1) := (blk_cell BK106.out 1).trans rfl
        have hfz36_0 := blk_frozen BK106.out 0
        have hfz36_1 := blk_frozen BK106.out 1
        obtain ⟨Ao37, co37, eo37⟩ := Kd.S_slice HO_107000.out
        subst eo37
        have hnb38 := NB105_104.out
        have hnc38 := NB104_105.out
        have hcz39_0 : wr.cell? ⟨gb105, 0, none⟩ = some (.slice none 0 0) := (blk_cell BK105.out 0).trans rfl
        have hcz39_1 : wr.cell? ⟨gb105, 1, none⟩ = some (.bool false) := (blk_cell BK105.out 1).trans rfl
        have hfz39_0 := blk_frozen BK105.out 0
        have hfz39_1 := blk_frozen BK105.out 1
        go_wp2
        refine bodyPost_ret (results_cell_row rfl _ _ gb105 30 #[.slice Ao37 x107000_1.length co37, .bool a0_1] (0, 0) _ rfl (by (with_reducible repeat (first | refine blk_drewN ?_ _ | refine blk_drew ?_ | refine blk_alloc ?_ _)); refine blk_put (cs := #[.slice Ao37 x107000_1.length co37, .bool false]) ?_ 1 _ rfl; (with_reducible repeat (first | refine blk_drewN ?_ _ | refine blk_drew ?_ | refine blk_alloc ?_ _)); refine blk_put (cs := #[.slice none 0 0, .bool false]) ?_ 0 _ rfl; (with_reducible repeat (first | refine blk_drewN ?_ _ | refine blk_drew ?_ | refine blk_alloc ?_ _)); exact BK105.out) Tryz.underlying30 rfl (by kernel_rfl)) rfl ?_
        exact ⟨_, by first | rfl | (simp [errW_none, errW_some] <;> rfl) | (simp [*, errW_none, errW_some] <;> rfl), by (with_reducible repeat (first | apply Kd.S_alloc | apply Kd.S_drewN | apply Kd.S_drew)); exact Kd.S_mono (Kd.S_far (p := ⟨gb105, 1, none⟩) (Kd.S_far (p := ⟨gb105, 0, none⟩) (Kd.S_types HO_107000.out BK105.out (by decide)) (fun _ hk => hk.2) (.slice Ao37 x107000_1.length co37)) (fun _ hk => hk.2) (.bool a0_1)) (fun _ hk => trivial), by repeat (first | (with_reducible first | exact HB.out | apply below_alloc | apply pw_below_drewN | apply below_drew1 | refine below_set ?_ GE104.out | refine below_set ?_ GE105.out | refine below_set ?_ GE106.out) | exact HB.out)⟩
end Go.Proofs.YtemgofomhjabpaaGreatDoor.Core
namespace Go.Proofs.YtemgofomhjabpaaGreatDoor.Core
open Go.RowKit Go.Proofs.YtemgofomhjabpaaGreatDoorW.PrintWords Go.Proofs.YtemgofomhjabpaaGreatDoorW.PrintLast Go.Proofs.YtemgofomhjabpaaGreatDoorW.PrintMore
attribute [local go_sem] max2_int min2_int max_two min_two max_three min_three max_four min_four   -- for this text's walks alone
set_option linter.unusedVariables false
set_option linter.unusedSimpArgs false
def laws_zzFits2.l0 : Nat → List (List (S69)) → Int → Int → Option (Bool)
  | 0, _, _, _ => none
  | k + 1, x8, x9, x10 => if x10 < x9 then (if 0 ≤ x10 then (if x10 < (x8.length : Int) then (if ((rd_L3 x8 x10).length : Int) > 2147483647 then (some false) else (laws_zzFits2.l0 k x8 x9 (wrap64 (x10 + 1)))) else (none)) else (none)) else (some true)
def laws_zzFits2.f (k : Nat) (l0 : List (List (S69))) : Option (Bool) := if (l0.length : Int) > 2147483647 then (some false) else (laws_zzFits2.l0 k l0 (l0.length : Int) 0)
set_option maxHeartbeats 8000000 in
set_option maxRecDepth 100000 in
theorem laws_zzFits2.calls (k : Nat) (A0 : Option Addr) (c0 : Nat) (l0 : List (List (S69))) (r : Bool) (w : World) (hr0 : Kd.C (Kd.slice 69 k69) w A0 l0.length l0) (hc0 : l0.length ≤ c0) (h : laws_zzFits2.f k l0 = some r) :
    Calls Tryz.prog 30 #[.slice A0 l0.length c0] w fun e w' => e = .returned (.bool r) ∧ Drawn0 w w' := by
  have HR0 := Aside0.mk hr0
  have HC0 := Aside0.mk hc0
  clear hr0 hc0
  have H : (if (l0.length : Int) > 2147483647 then (some false) else (laws_zzFits2.l0 k l0 (l0.length : Int) 0)) = some r := h
  clear h
  by_cases c2 : (l0.length : Int) > 2147483647
  · rw [if_pos c2] at H
    have c2b0 : decide (2147483647 < (l0.length : Int)) = true := decide_eq_true c2
    have c2b1 : decide (2147483647 < l0.length) = true := decide_eq_true (by omega)
    clear c2
    obtain rfl := Option.some.inj H
    go_enter Tryz.func30, Tryz.ntmps30
    go_wp2
    go_ret
    exact ⟨by first | rfl | (simp; done) | (simp [*]; done), by repeat (first | exact Drawn0.refl _ | apply Drawn0.step)⟩
  · rw [if_neg c2] at H
    have c2b0 : decide (2147483647 < (l0.length : Int)) = false := decide_eq_false c2
    have c2b1 : decide (2147483647 < l0.length) = false := decide_eq_false (by omega)
    clear c2
    have H' := Aside0.mk H
    clear H
    go_enter Tryz.func30, Tryz.ntmps30
    go_wp2
    go_loopg [10] k (fun kq v10 w' => ∃ (x10_1 : Int), v10 = .int .i64 x10_1 ∧ Aside0 (laws_zzFits2.l0 kq l0 (l0.length : Int) x10_1 = some r) ∧ Aside0 (kq ≤ k) ∧ Drawn0 w w')
    case atStart => exact ⟨(0), (by first | rfl | (simp; done) | (simp [*]; done)), H', ⟨Nat.le_refl _⟩, by repeat (first | exact Drawn0.refl _ | apply Drawn0.step)⟩
    case round =>
      clear H'
      try clear c2
      try clear c2b0
      try clear c2b1
      try clear p2
      obtain ⟨x10_1, rfl, HA, HK1, ⟨m1, rfl⟩⟩ := hrel
      cases gk with
      | zero => exact absurd HA.out (by simp [laws_zzFits2.l0])
      | succ k1 =>
        have H := HA.out
        clear HA
        simp only [laws_zzFits2.l0] at H
        by_cases c3 : x10_1 < (l0.length : Int)
        · rw [if_pos c3] at H
          have c3b0 : decide (x10_1 < (l0.length : Int)) = true := decide_eq_true c3
          clear c3
          by_cases c4 : 0 ≤ x10_1
          · rw [if_pos c4] at H
            have c4b0 : decide (0 ≤ x10_1) = true := decide_eq_true c4
            clear c4
            by_cases c5 : x10_1 < (l0.length : Int)
            · rw [if_pos c5] at H
              have c5b0 : decide (x10_1 < (l0.length : Int)) = true := decide_eq_true c5
              clear c5
              by_cases c6 : ((rd_L3 l0 x10_1).length : Int) > 2147483647
              · rw [if_pos c6] at H
                have c6b0 : decide (2147483647 < ((rd_L3 l0 x10_1).length : Int)) = true := decide_eq_true c6
                have c6b1 : decide (2147483647 < (rd_L3 l0 x10_1).length) = true := decide_eq_true (by omega)
                clear c6
                obtain rfl := Option.some.inj H
                have p101 : 0 ≤ (x10_1 : Int) := of_decide_eq_true (by first | (with_reducible assumption) | assumption)
                have q101 : x10_1 < (l0.length : Int) := of_decide_eq_true (by first | (with_reducible assumption) | assumption)
                obtain ⟨ad101, A101_0, c101_0, e101, hx101_0, hl101_0, hi101_0⟩ := at_L3 HR0.out x10_1 p101 q101
                cases e101
                have HR101_0 := Aside0.mk hi101_0
                have HC101_0 := Aside0.mk hl101_0
                clear hi101_0 hl101_0
                replace p101 := eq_true p101
                replace q101 := eq_true q101
                go_wp2
                go_ret
                exact ⟨by first | rfl | (simp; done) | (simp [*]; done), by repeat (first | exact Drawn0.refl _ | apply Drawn0.step)⟩
              · rw [if_neg c6] at H
                have c6b0 : decide (2147483647 < ((rd_L3 l0 x10_1).length : Int)) = false := decide_eq_false c6
                have c6b1 : decide (2147483647 < (rd_L3 l0 x10_1).length) = false := decide_eq_false (by omega)
                clear c6
                have H' := Aside0.mk H
                clear H
                have p101 : 0 ≤ (x10_1 : Int) := of_decide_eq_true (by first | (with_reducible assumption) | assumption)
                have q101 : x10_1 < (l0.length : Int) := of_decide_eq_true (by first | (with_reducible assumption) | assumption)
                obtain ⟨ad101, A101_0, c101_0, e101, hx101_0, hl101_0, hi101_0⟩ := at_L3 HR0.out x10_1 p101 q101
                cases e101
                have HR101_0 := Aside0.mk hi101_0
                have HC101_0 := Aside0.mk hl101_0
                clear hi101_0 hl101_0
                replace p101 := eq_true p101
                replace q101 := eq_true q101
                go_wp2
                go_roundg k1
                case measure => have := HK1.out; omega
                case rel => exact ⟨(wrap64 (x10_1 + 1)), (by first | rfl | (simp; done) | (simp [*]; done)), H', ⟨by have := HK1.out; omega⟩, by repeat (first | exact Drawn0.refl _ | apply Drawn0.step)⟩
            · rw [if_neg c5] at H
              exact absurd H (by simp)
          · rw [if_neg c4] at H
            exact absurd H (by simp)
        · rw [if_neg c3] at H
          have c3b0 : decide (x10_1 < (l0.length : Int)) = false := decide_eq_false c3
          clear c3
          obtain rfl := Option.some.inj H
          go_wp2
          go_ret
          exact ⟨by first | rfl | (simp; done) | (simp [*]; done), by repeat (first | exact Drawn0.refl _ | apply Drawn0.step)⟩
end Go.Proofs.YtemgofomhjabpaaGreatDoor.Core
namespace Go.Proofs.YtemgofomhjabpaaGreatDoor.Core
open Go.RowKit Go.Proofs.YtemgofomhjabpaaGreatDoorW.PrintWords Go.Proofs.YtemgofomhjabpaaGreatDoorW.PrintLast Go.Proofs.YtemgofomhjabpaaGreatDoorW.PrintMore
attribute [local go_sem] max2_int min2_int max_two min_two max_three min_three max_four min_four   -- for this text's walks alone
set_option linter.unusedVariables false
set_option linter.unusedSimpArgs false
def laws_zzFits1.f (k : Nat) (l0_0 : List (List (S69))) (a0_1 : Bool) : Option (Bool) := (laws_zzFits2.f k l0_0).bind fun t103 => (if t103 = true then (some true) else (some false))
set_option maxHeartbeats 8000000 in
set_option maxRecDepth 100000 in
theorem laws_zzFits1.calls (k : Nat) (A0_0 : Option Addr) (c0_0 : Nat) (l0_0 : List (List (S69))) (a0_1 : Bool) (r : Bool) (w : World) (hr0_0 : Kd.C (Kd.slice 69 k69) w A0_0 l0_0.length l0_0) (hc0_0 : l0_0.length ≤ c0_0) (h : laws_zzFits1.f k l0_0 a0_1 = some r) :
    Calls Tryz.prog 11 #[.agg #[.slice A0_0 l0_0.length c0_0, .bool a0_1]] w fun e w' => e = .returned (.bool r) ∧ Below w.heap.size w w' := by
  have hu24 := Tryz.underlying24
  have HR0_0 := Aside0.mk hr0_0
  have HC0_0 := Aside0.mk hc0_0
  clear hr0_0 hc0_0
  have HB := Aside0.mk (Below.refl w.heap.size w)
  have H : ((laws_zzFits2.f k l0_0).bind fun t103 => (if t103 = true then (some true) else (some false))) = some r := h
  clear h
  replace H := Option.bind_eq_some_iff.mp H
  obtain ⟨t103, A20, H⟩ := H
  replace H : (if t103 = true then (some true) else (some false)) = some r := H
  have A2 := Aside0.mk A20
  clear A20
  by_cases c3 : t103 = true
  · subst c3
    have H1 : (some true) = some r := by rw [if_pos rfl] at H; exact H
    clear H
    have H := H1
    clear H1
    obtain rfl := Option.some.inj H
    go_enter Tryz.func11, Tryz.ntmps11
    go_wp2_with (first | ((with_reducible refine gate_dst (N := 1) rfl ?_); refine box_event ?hg (N := 1) ?hd (cs := #[.slice A0_0 l0_0.length c0_0, .bool a0_1]) (t := 24) ?hr ?_; (case hd => rfl); (case hg => rfl); (case hr => first | (go_simp; done) | (go_simp; rfl)); intro gb102 hg w4 hbox hb; have n0_ := Aside0.mk (below_step (by repeat (first | (with_reducible first | exact HB.out | apply below_alloc | apply pw_below_drewN | apply below_drew1) | exact HB.out)) hb); have n1_ := Aside0.mk (hbox); have n2_ := Aside0.mk ((by rw [hg]; exact (below_size (by repeat (first | (with_reducible first | exact HB.out | apply below_alloc | apply pw_below_drewN | apply below_drew1) | exact HB.out))) : w.heap.size ≤ gb102)); have n3_ := Aside0.mk ((by rw [hg]; exact (below_size (by repeat (first | (with_reducible first | exact HB.out | apply below_alloc | apply pw_below_drewN | apply below_drew1) | exact HB.out))) : w.heap.size ≤ gb102)); clear HB; have HB := n0_; have BK102 := n1_; have GW102 := n2_; have GE102 := n3_; clear n0_ n1_ n2_ n3_; clear hb hbox hg; have hcz5_0 : w4.cell? ⟨gb102, 0, none⟩ = some (.slice A0_0 l0_0.length c0_0) := (blk_cell BK102.out 0).trans rfl; have hcz5_1 : w4.cell? ⟨gb102, 1, none⟩ = some (.bool a0_1) := (blk_cell BK102.out 1).trans rfl; have hfz5_0 := blk_frozen BK102.out 0; have hfz5_1 := blk_frozen BK102.out 1) | ((with_reducible refine gate_callee (f := 30) rfl ?_); refine goesL_ (some 5) rfl rfl Tryz.func30 (by kernel_rfl) rfl #[.slice A0_0 l0_0.length c0_0] rfl (by (try simp only [List.map_toArray, List.map_cons, List.map_nil]); first | done | rfl | (simp only [List.length_drop, List.length_take]; rfl)) ?_; (with_reducible refine (laws_zzFits2.calls k _ _ l0_0 true _ ?side1 ?side2 A2.out).mono ?_); (case side1 => repeat (first | exact (Kd.C_below HR0_0.out HB.out) | (with_reducible refine Kd.C_alloc ?_ _) | (with_reducible refine Kd.C_drewN ?_ _) | (with_reducible refine Kd.C_drew ?_))); (case side2 => exact HC0_0.out); rintro e w' ⟨rfl, ⟨nd, rfl⟩⟩; refine ⟨_, rfl, ?_⟩))
    go_ret
    exact ⟨by first | rfl | (simp [errW_none, errW_some] <;> rfl) | (simp [*, errW_none, errW_some] <;> rfl), by repeat (first | (with_reducible first | exact HB.out | apply below_alloc | apply pw_below_drewN | apply below_drew1 | refine below_set ?_ GE102.out) | exact HB.out)⟩
  · replace c3 := Bool.eq_false_iff.mpr c3
    subst c3
    have H1 : (some false) = some r := by rw [if_neg (show ¬ (false = true) by decide)] at H; exact H
    clear H
    have H := H1
    clear H1
    obtain rfl := Option.some.inj H
    go_enter Tryz.func11, Tryz.ntmps11
    go_wp2_with (first | ((with_reducible refine gate_dst (N := 1) rfl ?_); refine box_event ?hg (N := 1) ?hd (cs := #[.slice A0_0 l0_0.length c0_0, .bool a0_1]) (t := 24) ?hr ?_; (case hd => rfl); (case hg => rfl); (case hr => first | (go_simp; done) | (go_simp; rfl)); intro gb102 hg w6 hbox hb; have n0_ := Aside0.mk (below_step (by repeat (first | (with_reducible first | exact HB.out | apply below_alloc | apply pw_below_drewN | apply below_drew1) | exact HB.out)) hb); have n1_ := Aside0.mk (hbox); have n2_ := Aside0.mk ((by rw [hg]; exact (below_size (by repeat (first | (with_reducible first | exact HB.out | apply below_alloc | apply pw_below_drewN | apply below_drew1) | exact HB.out))) : w.heap.size ≤ gb102)); have n3_ := Aside0.mk ((by rw [hg]; exact (below_size (by repeat (first | (with_reducible first | exact HB.out | apply below_alloc | apply pw_below_drewN | apply below_drew1) | exact HB.out))) : w.heap.size ≤ gb102)); clear HB; have HB := n0_; have BK102 := n1_; have GW102 := n2_; have GE102 := n3_; clear n0_ n1_ n2_ n3_; clear hb hbox hg; have hcz7_0 : w6.cell? ⟨gb102, 0, none⟩ = some (.slice A0_0 l0_0.length c0_0) := (blk_cell BK102.out 0).trans rfl; have hcz7_1 : w6.cell? ⟨gb102, 1, none⟩ = some (.bool a0_1) := (blk_cell BK102.out 1).trans rfl; have hfz7_0 := blk_frozen BK102.out 0; have hfz7_1 := blk_frozen BK102.out 1) | ((with_reducible refine gate_callee (f := 30) rfl ?_); refine goesL_ (some 5) rfl rfl Tryz.func30 (by kernel_rfl) rfl #[.slice A0_0 l0_0.length c0_0] rfl (by (try simp only [List.map_toArray, List.map_cons, List.map_nil]); first | done | rfl | (simp only [List.length_drop, List.length_take]; rfl)) ?_; (with_reducible refine (laws_zzFits2.calls k _ _ l0_0 false _ ?side1 ?side2 A2.out).mono ?_); (case side1 => repeat (first | exact (Kd.C_below HR0_0.out HB.out) | (with_reducible refine Kd.C_alloc ?_ _) | (with_reducible refine Kd.C_drewN ?_ _) | (with_reducible refine Kd.C_drew ?_))); (case side2 => exact HC0_0.out); rintro e w' ⟨rfl, ⟨nd, rfl⟩⟩; refine ⟨_, rfl, ?_⟩))
    go_ret
    exact ⟨by first | rfl | (simp [errW_none, errW_some] <;> rfl) | (simp [*, errW_none, errW_some] <;> rfl), by repeat (first | (with_reducible first | exact HB.out | apply below_alloc | apply pw_below_drewN | apply below_drew1 | refine below_set ?_ GE102.out) | exact HB.out)⟩
end Go.Proofs.YtemgofomhjabpaaGreatDoor.Core
namespace Go.Proofs.YtemgofomhjabpaaGreatDoor.Core
open Go.RowKit Go.Proofs.YtemgofomhjabpaaGreatDoorW.PrintWords
abbrev It := S38
def lowI (i : Nat) : Int := if i = 3 then 1 else if i = 4 then 1 else 0
def highI (i : Nat) : Int := [59, 59, 23, 31, 12, 6].getD i 0
theorem low_some (i : Nat) : spec_Low.f (i : Int) = some (lowI i) := by
  unfold spec_Low.f lowI
  by_cases h : i = 3
  · subst h; rfl
  · by_cases h4 : i = 4
    · subst h4; rfl
    · rw [if_neg (by omega), if_neg (by omega), if_neg h, if_neg h4]
theorem high_some (i : Nat) (h : i < 6) : spec_High.f (i : Int) = some (highI i) := by
  unfold spec_High.f highI
  rw [if_pos (by omega), if_pos (by omega), rd_at]
theorem highI_le (i : Nat) : highI i ≤ 59 := by
  unfold highI
  match i with
  | 0 | 1 | 2 | 3 | 4 | 5 => decide
  | n + 6 => simp
theorem lowI_ge (i : Nat) : 0 ≤ lowI i := by
  unfold lowI
  split
  · omega
  · split <;> omega
def goodItem (i : Nat) (x : It) : Bool := decide (1 ≤ x.f3) && decide (x.f3 ≤ 60) && (x.f0 || (decide (lowI i ≤ x.f1) && decide (x.f2 ≤ highI i) && decide (x.f1 ≤ x.f2)))
def goodF (i : Nat) (l : List It) : Bool := l.all (goodItem i) && decide (1 ≤ l.length) && decide (l.length ≤ 6)
theorem rdI_at (l : List It) (j : Nat) (h : j < l.length) : rd_T38 l (j : Int) = l[j] := by
  simp [rd_T38, h]
theorem good_from (i : Nat) (hi : i < 6) (l : List It) (hl : l.length < 4611686018427387904) :
    ∀ (rest : List It) (j : Nat), l.drop j = rest → j ≤ l.length →
      Ev (fun k => spec_Good.l0 k (i : Int) l l (l.length : Int) (j : Int)) (rest.all (goodItem i) && decide (1 ≤ l.length) && decide (l.length ≤ 6)) := by
  intro rest
  induction rest with
  | nil =>
    intro j hj hjl
    have hlen : l.length ≤ j := List.drop_eq_nil_iff.1 hj
    refine Ev.done fun k => ?_
    simp only [spec_Good.l0]
    rw [if_neg (by omega)]
    by_cases h1 : 1 ≤ l.length
    · rw [if_pos (by omega)]
      simp [h1]
      omega
    · rw [if_neg (by omega)]
      simp [h1]
  | cons x t ih =>
    intro j hj hjl
    have hlt : j < l.length := by
      rcases Nat.lt_or_ge j l.length with h | h
      · exact h
      · rw [List.drop_eq_nil_of_le h] at hj; cases hj
    have hx : l[j] = x := by
      have := List.drop_eq_getElem_cons hlt
      rw [hj] at this
      exact (List.cons.inj this).1.symm
    have ht : l.drop (j + 1) = t := by rw [← List.drop_drop, hj]; rfl
    have hrd := rdI_at l j hlt
    rw [hx] at hrd
    have hrec := ih (j + 1) ht (by omega)
    by_cases hs : x.f3 < 1 ∨ 60 < x.f3
    · refine Ev.step (f := fun k => spec_Good.j1 k (i : Int) l l (l.length : Int) (j : Int) true x.f0 x.f1 x.f2 x.f3) (fun k => ?_) (Ev.done fun k => ?_)
      · simp only [spec_Good.l0, hrd]
        rw [if_pos (by omega), if_pos (by omega), if_pos (by omega)]
        by_cases h1 : x.f3 < 1
        · rw [if_pos h1]
        · rw [if_neg h1, show decide (x.f3 > 60) = true from decide_eq_true (by omega)]
      · simp only [spec_Good.j1]
        rw [if_pos trivial]
        have : goodItem i x = false := by
          unfold goodItem
          rcases hs with h | h
          · rw [show decide (1 ≤ x.f3) = false from decide_eq_false (by omega)]; rfl
          · rw [show decide (x.f3 ≤ 60) = false from decide_eq_false (by omega)]; simp
        simp [this]
    · refine Ev.step (f := fun k => spec_Good.j1 k (i : Int) l l (l.length : Int) (j : Int) false x.f0 x.f1 x.f2 x.f3) (fun k => ?_) ?_
      · simp only [spec_Good.l0, hrd]
        rw [if_pos (by omega), if_pos (by omega), if_pos (by omega), if_neg (by omega), show decide (x.f3 > 60) = false from decide_eq_false (by omega)]
      · have h1 : decide (1 ≤ x.f3) = true := decide_eq_true (by omega)
        have h2 : decide (x.f3 ≤ 60) = true := decide_eq_true (by omega)
        have hgo : ∀ b : Bool, goodItem i x = true → Ev (fun k => spec_Good.l0 k (i : Int) l l (l.length : Int) ((j + 1 : Nat) : Int)) ((x :: t).all (goodItem i) && decide (1 ≤ l.length) && decide (l.length ≤ 6)) := by
          intro _ hg
          rw [List.all_cons, hg, Bool.true_and]
          exact hrec
        by_cases h0 : x.f0 = true
        · refine Ev.step (f := fun k => spec_Good.l0 k (i : Int) l l (l.length : Int) ((j + 1 : Nat) : Int)) (fun k => ?_) (hgo true (by simp [goodItem, h1, h2, h0]))
          simp only [spec_Good.j1]
          rw [if_neg (by simp), if_pos h0, wrap64_nat j (by omega)]
        · by_cases g1 : x.f1 < lowI i
          · refine Ev.done fun k => ?_
            simp only [spec_Good.j1, low_some, Option.bind_some]
            rw [if_neg (by simp), if_neg h0, if_pos g1]
            have : goodItem i x = false := by simp [goodItem, h1, h2, h0]; omega
            simp [this]
          · by_cases g2 : x.f2 > highI i
            · refine Ev.done fun k => ?_
              simp only [spec_Good.j1, low_some, high_some i hi, Option.bind_some]
              rw [if_neg (by simp), if_neg h0, if_neg g1, if_pos g2]
              have : goodItem i x = false := by simp [goodItem, h1, h2, h0]; omega
              simp [this]
            · by_cases g3 : x.f1 > x.f2
              · refine Ev.done fun k => ?_
                simp only [spec_Good.j1, low_some, high_some i hi, Option.bind_some]
                rw [if_neg (by simp), if_neg h0, if_neg g1, if_neg g2, if_pos g3]
                have : goodItem i x = false := by simp [goodItem, h1, h2, h0]; omega
                simp [this]
              · refine Ev.step (f := fun k => spec_Good.l0 k (i : Int) l l (l.length : Int) ((j + 1 : Nat) : Int)) (fun k => ?_) (hgo true (by simp [goodItem, h1, h2, h0]; omega))
                simp only [spec_Good.j1, low_some, high_some i hi, Option.bind_some]
                rw [if_neg (by simp), if_neg h0, if_neg g1, if_neg g2, if_neg g3, wrap64_nat j (by omega)]
theorem good_ev (i : Nat) (hi : i < 6) (l : List It) (hl : l.length < 4611686018427387904) : Ev (fun k => spec_Good.f k (i : Int) l) (goodF i l) :=
  good_from i hi l hl l 0 rfl (Nat.zero_le _)
def starF (l : List It) : Bool := match l with | [x] => x.f0 && x.f3 == 1 | _ => false
theorem star_some (l : List It) : spec_Star.f l = some (starF l) := by
  unfold spec_Star.f starF
  match l with
  | [] => rfl
  | [x] =>
    rw [if_pos (by simp), if_pos (by simp)]
    have : rd_T38 [x] 0 = x := rfl
    rw [this]
    by_cases h : x.f0 = true
    · rw [if_pos h]; simp [h]
    · rw [if_neg h]; simp [h]
  | x :: y :: t => rw [if_neg (by simp; omega)]
def zeroF (l : List It) : Bool := match l with | [x] => !x.f0 && x.f1 == 0 && x.f2 == 0 && x.f3 == 1 | _ => false
def restE (f0 f3 f4 f5 : List It) (secs : Bool) : Bool := (secs || zeroF f0) && (starF f3 || starF f5) && (starF f4 || f3.all fun x => x.f0 || decide (x.f1 ≤ 28))
def goodE (Fs : List (List It)) (secs : Bool) : Bool := match Fs with
  | [f0, f1, f2, f3, f4, f5] => goodF 0 f0 && (goodF 1 f1 && (goodF 2 f2 && (goodF 3 f3 && (goodF 4 f4 && (goodF 5 f5 && restE f0 f3 f4 f5 secs)))))
  | _ => false
theorem exprGood_l1 (l : List It) (hl : l.length < 4611686018427387904) :
    ∀ (rest : List It) (j : Nat), l.drop j = rest → j ≤ l.length → Ev (fun k => spec_ExprGood.l1 k l (l.length : Int) (j : Int)) (rest.all fun x => x.f0 || decide (x.f1 ≤ 28)) := by
  intro rest
  induction rest with
  | nil =>
    intro j hj hjl
    have hlen : l.length ≤ j := List.drop_eq_nil_iff.1 hj
    refine Ev.done fun k => ?_
    simp only [spec_ExprGood.l1]
    rw [if_neg (by omega)]
    rfl
  | cons x t ih =>
    intro j hj hjl
    have hlt : j < l.length := by
      rcases Nat.lt_or_ge j l.length with h | h
      · exact h
      · rw [List.drop_eq_nil_of_le h] at hj; cases hj
    have hx : l[j] = x := by
      have := List.drop_eq_getElem_cons hlt
      rw [hj] at this
      exact (List.cons.inj this).1.symm
    have ht : l.drop (j + 1) = t := by rw [← List.drop_drop, hj]; rfl
    have hrd := rdI_at l j hlt
    rw [hx] at hrd
    have hrec := ih (j + 1) ht (by omega)
    rw [List.all_cons]
    by_cases h0 : x.f0 = true
    · rw [h0, Bool.true_or, Bool.true_and]
      refine Ev.step (f := fun k => spec_ExprGood.l1 k l (l.length : Int) ((j + 1 : Nat) : Int)) (fun k => ?_) hrec
      simp only [spec_ExprGood.l1, hrd]
      rw [if_pos (by omega), if_pos (by omega), if_pos (by omega), if_pos h0, wrap64_nat j (by omega)]
    · rw [show x.f0 = false from by simpa using h0, Bool.false_or]
      by_cases h1 : x.f1 > 28
      · rw [show decide (x.f1 ≤ 28) = false from decide_eq_false (by omega), Bool.false_and]
        refine Ev.done fun k => ?_
        simp only [spec_ExprGood.l1, hrd]
        rw [if_pos (by omega), if_pos (by omega), if_pos (by omega), if_neg h0, if_pos h1]
      · rw [show decide (x.f1 ≤ 28) = true from decide_eq_true (by omega), Bool.true_and]
        refine Ev.step (f := fun k => spec_ExprGood.l1 k l (l.length : Int) ((j + 1 : Nat) : Int)) (fun k => ?_) hrec
        simp only [spec_ExprGood.l1, hrd]
        rw [if_pos (by omega), if_pos (by omega), if_pos (by omega), if_neg h0, if_neg h1, wrap64_nat j (by omega)]
section
variable (f0 f1 f2 f3 f4 f5 : List It) (secs : Bool)
theorem exprGood_j2 (h3 : f3.length < 4611686018427387904) (b : Bool) :
    Ev (fun k => spec_ExprGood.j2 k b [f0, f1, f2, f3, f4, f5] secs) (!b && (starF f4 || f3.all fun x => x.f0 || decide (x.f1 ≤ 28))) := by
  have e4 : rd_L5 [f0, f1, f2, f3, f4, f5] 4 = f4 := rfl
  have e3 : rd_L5 [f0, f1, f2, f3, f4, f5] 3 = f3 := rfl
  cases b with
  | true =>
    refine Ev.done fun k => ?_
    simp only [spec_ExprGood.j2]
    rw [if_pos trivial]
    rfl
  | false =>
    cases h : starF f4 with
    | true =>
      refine Ev.done fun k => ?_
      simp only [spec_ExprGood.j2, e4, star_some, Option.bind_some, h]
      rw [if_neg (by simp), if_pos (by simp), if_pos trivial]
      rfl
    | false =>
      refine Ev.step (f := fun k => spec_ExprGood.l1 k f3 (f3.length : Int) ((0 : Nat) : Int)) (fun k => ?_) (Ev.eq _ (exprGood_l1 f3 h3 f3 0 rfl (Nat.zero_le _)) (by simp))
      simp only [spec_ExprGood.j2, e4, e3, star_some, Option.bind_some, h]
      rw [if_neg (by simp), if_pos (by simp), if_neg (by simp), if_pos (by simp)]
      rfl
theorem exprGood_j1 (h3 : f3.length < 4611686018427387904) (b : Bool) :
    Ev (fun k => spec_ExprGood.j1 k b [f0, f1, f2, f3, f4, f5] secs) (!b && (starF f3 || starF f5) && (starF f4 || f3.all fun x => x.f0 || decide (x.f1 ≤ 28))) := by
  have e3 : rd_L5 [f0, f1, f2, f3, f4, f5] 3 = f3 := rfl
  have e5 : rd_L5 [f0, f1, f2, f3, f4, f5] 5 = f5 := rfl
  cases b with
  | true =>
    refine Ev.done fun k => ?_
    simp only [spec_ExprGood.j1]
    rw [if_pos trivial]
    rfl
  | false =>
    cases h : starF f3 with
    | true =>
      refine Ev.step (f := fun k => spec_ExprGood.j2 k false [f0, f1, f2, f3, f4, f5] secs) (fun k => ?_) (exprGood_j2 f0 f1 f2 f3 f4 f5 secs h3 false)
      simp only [spec_ExprGood.j1, e3, star_some, Option.bind_some, h]
      rw [if_neg (by simp), if_pos (by simp), if_pos trivial]
    | false =>
      refine Ev.step (f := fun k => spec_ExprGood.j2 k (!starF f5) [f0, f1, f2, f3, f4, f5] secs) (fun k => ?_) (Ev.eq _ (exprGood_j2 f0 f1 f2 f3 f4 f5 secs h3 (!starF f5)) (by simp))
      simp only [spec_ExprGood.j1, e3, e5, star_some, Option.bind_some, h]
      rw [if_neg (by simp), if_pos (by simp), if_neg (by simp), if_pos (by simp)]
theorem exprGood_rest (h3 : f3.length < 4611686018427387904) :
    Ev (fun k => spec_ExprGood.l0 k [f0, f1, f2, f3, f4, f5] 6 6 [f0, f1, f2, f3, f4, f5] secs) (restE f0 f3 f4 f5 secs) := by
  have e0 : rd_L5 [f0, f1, f2, f3, f4, f5] 0 = f0 := rfl
  unfold restE
  cases secs with
  | true =>
    refine Ev.step (f := fun k => spec_ExprGood.j1 k false [f0, f1, f2, f3, f4, f5] true) (fun k => ?_) (exprGood_j1 f0 f1 f2 f3 f4 f5 true h3 false)
    simp only [spec_ExprGood.l0]
    rw [if_neg (by simp), if_pos trivial]
  | false =>
    refine Ev.step (f := fun k => spec_ExprGood.j1 k (!zeroF f0) [f0, f1, f2, f3, f4, f5] false) (fun k => ?_) (Ev.eq _ (exprGood_j1 f0 f1 f2 f3 f4 f5 false h3 (!zeroF f0)) (by simp))
    simp only [spec_ExprGood.l0, e0]
    rw [if_neg (by simp), if_neg (by simp), if_pos (by simp)]
    match f0 with
    | [] => rfl
    | [x] =>
      rw [if_pos (by simp), if_pos (by simp)]
      have : rd_T38 [x] 0 = x := rfl
      rw [this]
      congr 1
      simp [zeroF, Bool.not_and, Bool.or_assoc]
    | x :: y :: t => rw [if_neg (by simp; omega)]; rfl
theorem exprGood_six (h : ∀ l ∈ [f0, f1, f2, f3, f4, f5], l.length < 4611686018427387904) : Ev (fun k => spec_ExprGood.f k [f0, f1, f2, f3, f4, f5] secs) (goodE [f0, f1, f2, f3, f4, f5] secs) := by
  have step : ∀ (j : Nat) (l : List It) (b : Bool), j < 6 → l.length < 4611686018427387904 → rd_L5 [f0, f1, f2, f3, f4, f5] (j : Int) = l →
      Ev (fun k => spec_ExprGood.l0 k [f0, f1, f2, f3, f4, f5] 6 ((j + 1 : Nat) : Int) [f0, f1, f2, f3, f4, f5] secs) b →
      Ev (fun k => spec_ExprGood.l0 k [f0, f1, f2, f3, f4, f5] 6 (j : Int) [f0, f1, f2, f3, f4, f5] secs) (goodF j l && b) := by
    intro j l b hj hl hrd hrec
    refine Ev.step (f := fun k => (spec_Good.f k (j : Int) l).bind fun t => if t = true then spec_ExprGood.l0 k [f0, f1, f2, f3, f4, f5] 6 ((j + 1 : Nat) : Int) [f0, f1, f2, f3, f4, f5] secs else some false) (fun k => ?_) (Ev.bind (good_ev j hj l hl) ?_)
    · simp only [spec_ExprGood.l0, hrd]
      rw [if_pos (by omega), if_pos (by omega), if_pos (by simp; omega), wrap64_nat j (by omega)]
    · cases goodF j l with
      | true => exact Ev.congr (f := fun k => spec_ExprGood.l0 k [f0, f1, f2, f3, f4, f5] 6 ((j + 1 : Nat) : Int) [f0, f1, f2, f3, f4, f5] secs) (fun k => if_pos rfl) (by simpa using hrec)
      | false => exact Ev.const (by simp)
  unfold goodE
  refine Ev.congr (f := fun k => spec_ExprGood.l0 k [f0, f1, f2, f3, f4, f5] 6 ((0 : Nat) : Int) [f0, f1, f2, f3, f4, f5] secs) (fun k => by unfold spec_ExprGood.f; rw [if_pos (by simp)]; rfl) ?_
  exact step 0 f0 _ (by omega) (h _ (by simp)) rfl (step 1 f1 _ (by omega) (h _ (by simp)) rfl (step 2 f2 _ (by omega) (h _ (by simp)) rfl (step 3 f3 _ (by omega) (h _ (by simp)) rfl (step 4 f4 _ (by omega) (h _ (by simp)) rfl (step 5 f5 _ (by omega) (h _ (by simp)) rfl
    (exprGood_rest f0 f1 f2 f3 f4 f5 secs (h _ (by simp))))))))
end
theorem exprGood_ev (Fs : List (List It)) (secs : Bool) (h : ∀ l ∈ Fs, l.length < 4611686018427387904) : Ev (fun k => spec_ExprGood.f k Fs secs) (goodE Fs secs) := by
  by_cases h6 : Fs.length = 6
  · match Fs, h6 with
    | [f0, f1, f2, f3, f4, f5], _ => exact exprGood_six f0 f1 f2 f3 f4 f5 secs h
  · have : goodE Fs secs = false := by
      match Fs with
      | [] | [_] | [_, _] | [_, _, _] | [_, _, _, _] | [_, _, _, _, _] => rfl
      | [_, _, _, _, _, _] => simp at h6
      | _ :: _ :: _ :: _ :: _ :: _ :: _ :: _ => rfl
    rw [this]
    exact Ev.congr (f := fun _ => some false) (fun k => by unfold spec_ExprGood.f; rw [if_neg (by omega)]) (Ev.const rfl)
end Go.Proofs.YtemgofomhjabpaaGreatDoor.Core
namespace Go.Proofs.YtemgofomhjabpaaGreatDoor.Core
open Go.RowKit Go.Proofs.YtemgofomhjabpaaGreatDoorW.PrintWords
def digits10 : List UInt8 := [48, 49, 50, 51, 52, 53, 54, 55, 56, 57]
theorem digit_cut (n : Nat) (h : n < 10) : (B digits10).extract n (n + 1) = B [UInt8.ofNat (48 + n)] := by
  rw [B_cut]
  have : ∀ n, n < 10 → (digits10.drop n).take (n + 1 - n) = [UInt8.ofNat (48 + n)] := by decide
  rw [this n h]
theorem decimal_ev (m : Nat) : ∀ n : Nat, n < 10 ^ (m + 1) → m < 17 → Ev (fun k => spec_Decimal.f k (n : Int)) (B (decN n)) := by
  have base : ∀ n : Nat, n < 10 → Ev (fun k => spec_Decimal.f k (n : Int)) (B (decN n)) := by
    intro n h
    refine Ev.done fun k => ?_
    simp only [spec_Decimal.f]
    rw [if_pos (by omega), if_pos (by omega), wrap64_id (by omega) (by omega), if_pos (by omega), if_pos (by omega), decN_lt n h]
    have := digit_cut n h
    rw [show ((n : Int)).toNat = n by omega, show ((n : Int) + 1).toNat = n + 1 by omega]
    exact congrArg some this
  induction m with
  | zero => intro n h _; exact base n (by simpa using h)
  | succ m ih =>
    intro n h hm
    by_cases h10 : n < 10
    · exact base n h10
    · have hq : n / 10 < 10 ^ (m + 1) := by rw [Nat.div_lt_iff_lt_mul (by omega)]; rw [Nat.pow_succ] at h; exact h
      have hn : n < 10 ^ 18 := Nat.lt_of_lt_of_le h (Nat.pow_le_pow_right (by omega) (by omega))
      have hn' : n < 1000000000000000000 := by simpa using hn
      have e1 : wrap64 (Int.tdiv (n : Int) 10) = ((n / 10 : Nat) : Int) := by
        rw [Int.tdiv_eq_ediv_of_nonneg (by omega), wrap64_id (by omega) (by omega)]; rfl
      have e2 : Int.tmod (n : Int) 10 = ((n % 10 : Nat) : Int) := by rw [Int.tmod_eq_emod_of_nonneg (by omega)]; rfl
      have l1 := decN_length (n / 10) m hq
      refine Ev.step (f := fun k => (spec_Decimal.f k ((n / 10 : Nat) : Int)).bind fun t => (spec_Decimal.f k ((n % 10 : Nat) : Int)).bind fun u => if t.size + u.size ≤ 9223372036854775807 then some (t ++ u) else none) (fun k => ?_) (Ev.bind (ih (n / 10) hq (by omega)) (Ev.bind (base (n % 10) (by omega)) (Ev.const ?_)))
      · simp only [spec_Decimal.f]
        rw [if_neg (by omega), e1, e2]
      · rw [B_size, B_size, decN_lt (n % 10) (by omega), if_pos (by simp; omega), B_app, decN_ge n h10]
theorem dec_ev (n : Int) (h0 : 0 ≤ n) (h : n < 100000) : Ev (fun k => spec_Decimal.f k n) (B (decN n.toNat)) := by
  have := decimal_ev 4 n.toNat (by simp; omega) (by omega)
  rwa [show ((n.toNat : Nat) : Int) = n by omega] at this
theorem decN_two (n : Nat) (h : n < 100) : (decN n).length ≤ 2 := decN_length n 1 (by simpa using h)
def stepL (s : Int) : List UInt8 := if 1 < s then 47 :: decN s.toNat else []
def itemL (x : It) : List UInt8 := if x.f0 then 42 :: stepL x.f3 else decN x.f1.toNat ++ ((if x.f1 < x.f2 ∨ 1 < x.f3 then 45 :: decN x.f2.toNat else []) ++ stepL x.f3)
theorem goodItem_spec {i : Nat} {x : It} (h : goodItem i x = true) : 1 ≤ x.f3 ∧ x.f3 ≤ 60 ∧ (x.f0 = false → 0 ≤ x.f1 ∧ x.f2 ≤ 59 ∧ x.f1 ≤ x.f2 ∧ lowI i ≤ x.f1 ∧ x.f2 ≤ highI i) := by
  unfold goodItem at h
  simp only [Bool.and_eq_true, decide_eq_true_eq, Bool.or_eq_true] at h
  refine ⟨h.1.1, h.1.2, fun h0 => ?_⟩
  have hl := lowI_ge i
  have hh := highI_le i
  rcases h.2 with h2 | h2
  · rw [h0] at h2; cases h2
  · exact ⟨by omega, by omega, h2.2, h2.1.1, h2.1.2⟩
theorem stepL_length (s : Int) (h : s ≤ 60) : (stepL s).length ≤ 3 := by
  unfold stepL
  split
  · have := decN_two s.toNat (by omega); simp; omega
  · simp
theorem item_ev {i : Nat} {x : It} (h : goodItem i x = true) : Ev (fun k => spec_ItemText.f k x.f0 x.f1 x.f2 x.f3) (B (itemL x)) := by
  obtain ⟨s1, s2, hr⟩ := goodItem_spec h
  have hst : ∀ (p : List UInt8), p.length ≤ 10 → ∀ f : Bool, Ev (fun k => if x.f3 > 1 then ((spec_Decimal.f k x.f3).bind fun t => (if 1 + t.size ≤ 9223372036854775807 then (if (B p).size + ((⟨#[47]⟩ : ByteArray) ++ t).size ≤ 9223372036854775807 then (some (B p ++ ((⟨#[47]⟩ : ByteArray) ++ t))) else (none)) else (none))) else some (B p)) (B (p ++ stepL x.f3)) := by
    intro p hp _
    unfold stepL
    by_cases h3 : 1 < x.f3
    · rw [if_pos h3]
      refine Ev.congr (f := fun k => (spec_Decimal.f k x.f3).bind fun t => (if 1 + t.size ≤ 9223372036854775807 then (if (B p).size + ((⟨#[47]⟩ : ByteArray) ++ t).size ≤ 9223372036854775807 then (some (B p ++ ((⟨#[47]⟩ : ByteArray) ++ t))) else (none)) else (none))) (fun k => if_pos h3) (Ev.bind (dec_ev x.f3 (by omega) (by omega)) (Ev.const ?_))
      have := decN_two x.f3.toNat (by omega)
      rw [show (⟨#[47]⟩ : ByteArray) = B [47] from rfl, B_app, B_size, B_size, B_size, if_pos (by omega), if_pos (by simp; omega), B_app]
      rfl
    · rw [if_neg h3]
      exact Ev.congr (f := fun _ => some (B p)) (fun k => if_neg (by omega)) (Ev.const (by simp))
  unfold itemL
  cases h0 : x.f0 with
  | true =>
    rw [if_pos rfl]
    refine Ev.congr (f := fun k => if x.f3 > 1 then ((spec_Decimal.f k x.f3).bind fun t => (if 1 + t.size ≤ 9223372036854775807 then (if (B [42]).size + ((⟨#[47]⟩ : ByteArray) ++ t).size ≤ 9223372036854775807 then (some (B [42] ++ ((⟨#[47]⟩ : ByteArray) ++ t))) else (none)) else (none))) else some (B [42])) (fun k => ?_) (hst [42] (by simp) true)
    unfold spec_ItemText.f
    rw [if_pos rfl]
    rfl
  | false =>
    obtain ⟨r1, r2, r3, _, _⟩ := hr h0
    rw [if_neg (by simp)]
    have l1 := decN_two x.f1.toNat (by omega)
    have l2 := decN_two x.f2.toNat (by omega)
    have hj : ∀ b : Bool, b = decide (x.f1 < x.f2 ∨ 1 < x.f3) → Ev (fun k => spec_ItemText.j0 k (B (decN x.f1.toNat)) b false x.f1 x.f2 x.f3) (B (decN x.f1.toNat ++ ((if x.f1 < x.f2 ∨ 1 < x.f3 then 45 :: decN x.f2.toNat else []) ++ stepL x.f3))) := by
      intro b hb
      by_cases hc : x.f1 < x.f2 ∨ 1 < x.f3
      · rw [decide_eq_true hc] at hb
        subst hb
        rw [if_pos hc]
        refine Ev.step (f := fun k => (spec_Decimal.f k x.f2).bind fun t => if t = B (decN x.f2.toNat) then (if x.f3 > 1 then ((spec_Decimal.f k x.f3).bind fun t => (if 1 + t.size ≤ 9223372036854775807 then (if (B (decN x.f1.toNat ++ 45 :: decN x.f2.toNat)).size + ((⟨#[47]⟩ : ByteArray) ++ t).size ≤ 9223372036854775807 then (some (B (decN x.f1.toNat ++ 45 :: decN x.f2.toNat) ++ ((⟨#[47]⟩ : ByteArray) ++ t))) else (none)) else (none))) else some (B (decN x.f1.toNat ++ 45 :: decN x.f2.toNat))) else spec_ItemText.j0 (k + 1) (B (decN x.f1.toNat)) true false x.f1 x.f2 x.f3) (fun k => ?_) (Ev.bind (dec_ev x.f2 (by omega) (by omega)) ?_)
        · cases hg : spec_Decimal.f k x.f2 with
          | none => simp only [spec_ItemText.j0, hg]; rw [if_pos trivial]; rfl
          | some t =>
            simp only [Option.bind_some]
            by_cases ht : t = B (decN x.f2.toNat)
            · rw [if_pos ht]
              subst ht
              simp only [spec_ItemText.j0, hg, Option.bind_some]
              rw [if_pos trivial, show (⟨#[45]⟩ : ByteArray) = B [45] from rfl, B_app, if_pos (by rw [B_size]; omega), if_pos (by rw [B_size, B_size]; simp; omega), B_app]
              rfl
            · rw [if_neg ht]
        · refine Ev.congr (f := fun k => if x.f3 > 1 then ((spec_Decimal.f k x.f3).bind fun t => (if 1 + t.size ≤ 9223372036854775807 then (if (B (decN x.f1.toNat ++ 45 :: decN x.f2.toNat)).size + ((⟨#[47]⟩ : ByteArray) ++ t).size ≤ 9223372036854775807 then (some (B (decN x.f1.toNat ++ 45 :: decN x.f2.toNat) ++ ((⟨#[47]⟩ : ByteArray) ++ t))) else (none)) else (none))) else some (B (decN x.f1.toNat ++ 45 :: decN x.f2.toNat))) (fun k => if_pos rfl) ?_
          have := hst (decN x.f1.toNat ++ 45 :: decN x.f2.toNat) (by simp; omega) true
          rwa [List.append_assoc] at this
      · rw [decide_eq_false hc] at hb
        subst hb
        rw [if_neg hc]
        refine Ev.step (f := fun k => if x.f3 > 1 then ((spec_Decimal.f k x.f3).bind fun t => (if 1 + t.size ≤ 9223372036854775807 then (if (B (decN x.f1.toNat)).size + ((⟨#[47]⟩ : ByteArray) ++ t).size ≤ 9223372036854775807 then (some (B (decN x.f1.toNat) ++ ((⟨#[47]⟩ : ByteArray) ++ t))) else (none)) else (none))) else some (B (decN x.f1.toNat))) (fun k => ?_) (hst (decN x.f1.toNat) (by omega) true)
        simp only [spec_ItemText.j0]
        rw [if_neg (by simp)]
    refine Ev.congr (f := fun k => (spec_Decimal.f k x.f1).bind fun t => if x.f2 > x.f1 then spec_ItemText.j0 k t true false x.f1 x.f2 x.f3 else spec_ItemText.j0 k t (decide (x.f3 > 1)) false x.f1 x.f2 x.f3) (fun k => ?_) (Ev.bind (dec_ev x.f1 (by omega) (by omega)) ?_)
    · unfold spec_ItemText.f
      rw [if_neg (by simp)]
    · by_cases h12 : x.f1 < x.f2
      · exact Ev.congr (f := fun k => spec_ItemText.j0 k (B (decN x.f1.toNat)) true false x.f1 x.f2 x.f3) (fun k => if_pos h12) (hj true (by simp [h12]))
      · exact Ev.congr (f := fun k => spec_ItemText.j0 k (B (decN x.f1.toNat)) (decide (x.f3 > 1)) false x.f1 x.f2 x.f3) (fun k => if_neg h12) (hj _ (by simp [h12]))
theorem itemL_length {i : Nat} {x : It} (h : goodItem i x = true) : (itemL x).length ≤ 8 := by
  obtain ⟨s1, s2, hr⟩ := goodItem_spec h
  have hs := stepL_length x.f3 s2
  unfold itemL
  cases h0 : x.f0 with
  | true => simp; omega
  | false =>
    obtain ⟨r1, r2, r3, _, _⟩ := hr h0
    have l1 := decN_two x.f1.toNat (by omega)
    have l2 := decN_two x.f2.toNat (by omega)
    simp
    split <;> simp <;> omega
def joinL (c : UInt8) : List (List UInt8) → List UInt8
  | [] => []
  | [x] => x
  | x :: y :: t => x ++ c :: joinL c (y :: t)
theorem joinL_snoc (c : UInt8) (l : List (List UInt8)) (x : List UInt8) (h : l ≠ []) : joinL c (l ++ [x]) = joinL c l ++ c :: x := by
  induction l with
  | nil => exact absurd rfl h
  | cons a t ih =>
    cases t with
    | nil => rfl
    | cons b t =>
      rw [List.cons_append, List.cons_append, joinL, ← List.cons_append, ih (by simp), joinL]
      simp
theorem joinL_length (c : UInt8) (l : List (List UInt8)) (m : Nat) (h : ∀ x ∈ l, x.length ≤ m) : (joinL c l).length ≤ l.length * (m + 1) := by
  induction l with
  | nil => simp [joinL]
  | cons a t ih =>
    have ha := h a (by simp)
    cases t with
    | nil => simp [joinL]; omega
    | cons b t =>
      have := ih (fun x hx => h x (by simp [hx]))
      rw [joinL, List.length_append, List.length_cons, List.length_cons, Nat.succ_mul]
      omega
def fieldL (l : List It) : List UInt8 := joinL 44 (l.map itemL)
theorem goodF_spec {i : Nat} {l : List It} (h : goodF i l = true) : (∀ x ∈ l, goodItem i x = true) ∧ 1 ≤ l.length ∧ l.length ≤ 6 := by
  unfold goodF at h
  simp only [Bool.and_eq_true, decide_eq_true_eq, List.all_eq_true] at h
  exact ⟨h.1.1, h.1.2, h.2⟩
theorem fieldL_length {i : Nat} {l : List It} (h : goodF i l = true) : (fieldL l).length ≤ 54 := by
  obtain ⟨hg, h1, h6⟩ := goodF_spec h
  have := joinL_length 44 (l.map itemL) 8 (by intro z hz; obtain ⟨y, hy, rfl⟩ := List.mem_map.1 hz; exact itemL_length (hg y hy))
  rw [List.length_map] at this
  unfold fieldL
  omega
theorem field_from {i : Nat} (l : List It) (hg : ∀ x ∈ l, goodItem i x = true) (h6 : l.length ≤ 6) :
    ∀ (rest : List It) (j : Nat), l.drop j = rest → j ≤ l.length → Ev (fun k => spec_FieldText.l0 k (B (joinL 44 ((l.take j).map itemL))) l (l.length : Int) (j : Int)) (B (fieldL l)) := by
  intro rest
  induction rest with
  | nil =>
    intro j hj hjl
    have hlen : l.length ≤ j := List.drop_eq_nil_iff.1 hj
    refine Ev.done fun k => ?_
    simp only [spec_FieldText.l0]
    rw [if_neg (by omega), List.take_of_length_le hlen]
    rfl
  | cons x t ih =>
    intro j hj hjl
    have hlt : j < l.length := by
      rcases Nat.lt_or_ge j l.length with h | h
      · exact h
      · rw [List.drop_eq_nil_of_le h] at hj; cases hj
    have hx : l[j] = x := by
      have := List.drop_eq_getElem_cons hlt
      rw [hj] at this
      exact (List.cons.inj this).1.symm
    have ht : l.drop (j + 1) = t := by rw [← List.drop_drop, hj]; rfl
    have hrd := rdI_at l j hlt
    rw [hx] at hrd
    have hgx := hg x (by rw [← hx]; exact List.getElem_mem hlt)
    have hlx := itemL_length hgx
    have hbound : (joinL 44 ((l.take j).map itemL)).length ≤ 54 := by
      have := joinL_length 44 ((l.take j).map itemL) 8 (by intro z hz; obtain ⟨y, hy, rfl⟩ := List.mem_map.1 hz; exact itemL_length (hg y (List.mem_of_mem_take hy)))
      rw [List.length_map, List.length_take] at this
      omega
    have hrec := ih (j + 1) ht (by omega)
    rw [List.take_succ_eq_append_getElem hlt, List.map_append, hx, List.map_singleton] at hrec
    by_cases h0 : j = 0
    · subst h0
      refine Ev.step (f := fun k => (spec_ItemText.f k x.f0 x.f1 x.f2 x.f3).bind fun t => if t.size ≤ 9223372036854775807 then spec_FieldText.l0 k (B [] ++ t) l (l.length : Int) ((0 + 1 : Nat) : Int) else none) (fun k => ?_) (Ev.bind (item_ev hgx) ?_)
      · simp only [spec_FieldText.l0, hrd]
        rw [if_pos (by omega), if_pos (by omega), if_pos (by omega), if_neg (by omega), wrap64_nat 0 (by omega)]
        simp [joinL, B_size]
      · refine Ev.congr (f := fun k => spec_FieldText.l0 k (B (joinL 44 ([] ++ [itemL x]))) l (l.length : Int) ((0 + 1 : Nat) : Int)) (fun k => ?_) (by simpa using hrec)
        rw [if_pos (by rw [B_size]; omega), B_app]
        rfl
    · have hnn : (l.take j).map itemL ≠ [] := by
        intro e
        have := congrArg List.length e
        rw [List.length_map, List.length_take, List.length_nil] at this
        omega
      rw [joinL_snoc _ _ _ hnn] at hrec
      refine Ev.step (f := fun k => (spec_ItemText.f k x.f0 x.f1 x.f2 x.f3).bind fun t => if (B (joinL 44 ((l.take j).map itemL ++ [[]]))).size + t.size ≤ 9223372036854775807 then spec_FieldText.l0 k (B (joinL 44 ((l.take j).map itemL ++ [[]])) ++ t) l (l.length : Int) ((j + 1 : Nat) : Int) else none) (fun k => ?_) (Ev.bind (item_ev hgx) ?_)
      · simp only [spec_FieldText.l0, hrd]
        rw [if_pos (by omega), if_pos (by omega), if_pos (by omega), if_pos (by omega), wrap64_nat j (by omega), if_pos (by rw [B_size]; omega), show (⟨#[44]⟩ : ByteArray) = B [44] from rfl, B_app, joinL_snoc _ _ _ hnn]
      · refine Ev.congr (f := fun k => spec_FieldText.l0 k (B (joinL 44 ((l.take j).map itemL) ++ 44 :: itemL x)) l (l.length : Int) ((j + 1 : Nat) : Int)) (fun k => ?_) (by simpa using hrec)
        rw [joinL_snoc _ _ _ hnn, if_pos (by rw [B_size, B_size, List.length_append, List.length_singleton]; omega), B_app]
        simp
theorem field_ev {i : Nat} {l : List It} (h : goodF i l = true) : Ev (fun k => spec_FieldText.f k l) (B (fieldL l)) := by
  obtain ⟨hg, h1, h6⟩ := goodF_spec h
  exact field_from l hg h6 l 0 rfl (Nat.zero_le _)
theorem rdF_at (l : List (List It)) (j : Nat) (h : j < l.length) : rd_L5 l (j : Int) = l[j] := by
  simp [rd_L5, h]
theorem joinL_ne (c : UInt8) (l : List (List UInt8)) (h : l ≠ []) (hx : ∀ x ∈ l, x ≠ []) : joinL c l ≠ [] := by
  match l with
  | [] => exact absurd rfl h
  | [x] => exact hx x (by simp)
  | x :: y :: t => rw [joinL]; simp
theorem itemL_ne (x : It) : itemL x ≠ [] := by
  unfold itemL
  split
  · simp
  · have := decN_ne x.f1.toNat
    simp [this]
theorem fieldL_ne {i : Nat} {l : List It} (h : goodF i l = true) : fieldL l ≠ [] := by
  obtain ⟨hg, h1, h6⟩ := goodF_spec h
  refine joinL_ne _ _ ?_ ?_
  · intro e
    have := congrArg List.length e
    simp at this
    rw [this] at h1
    simp at h1
  · intro x hx
    obtain ⟨y, _, rfl⟩ := List.mem_map.1 hx
    exact itemL_ne y
def written (Fs : List (List It)) (secs : Bool) : List (List It) := if secs then Fs else Fs.drop 1
def textL (Fs : List (List It)) (secs : Bool) : List UInt8 := joinL 32 ((written Fs secs).map fieldL)
def GoodFs (Fs : List (List It)) : Prop := Fs.length = 6 ∧ ∀ (j : Nat) (h : j < Fs.length), goodF j Fs[j] = true
theorem written_take (Fs : List (List It)) (secs : Bool) (j : Nat) (h : j < Fs.length) (hw : secs = true ∨ 0 < j) :
    written (Fs.take (j + 1)) secs = written (Fs.take j) secs ++ [Fs[j]] := by
  unfold written
  rw [List.take_succ_eq_append_getElem h]
  cases secs with
  | true => rfl
  | false =>
    simp at hw
    rw [if_neg (by simp), if_neg (by simp), List.drop_append, show 1 - (List.take j Fs).length = 0 by rw [List.length_take]; omega]
    rfl
theorem text_from (Fs : List (List It)) (secs : Bool) (hF : GoodFs Fs) :
    ∀ (d j : Nat), 6 - j = d → j ≤ 6 → Ev (fun k => spec_Text.l0 k (B (joinL 32 ((written (Fs.take j) secs).map fieldL))) Fs 6 (j : Int) Fs secs) (B (textL Fs secs)) := by
  obtain ⟨h6, hg⟩ := hF
  intro d
  induction d with
  | zero =>
    intro j hd hj
    refine Ev.done fun k => ?_
    simp only [spec_Text.l0]
    rw [if_neg (by omega), List.take_of_length_le (by omega)]
    rfl
  | succ d ih =>
    intro j hd hj
    have hlt : j < Fs.length := by omega
    have hgj := hg j hlt
    have hrd := rdF_at Fs j hlt
    have hfl := fieldL_length hgj
    have hrec := ih (j + 1) (by omega) (by omega)
    have hb : (joinL 32 ((written (Fs.take j) secs).map fieldL)).length ≤ 330 := by
      have hall : ∀ x ∈ (written (Fs.take j) secs).map fieldL, x.length ≤ 54 := by
        intro x hx
        obtain ⟨y, hy, rfl⟩ := List.mem_map.1 hx
        have hy2 : y ∈ Fs := by
          unfold written at hy
          split at hy
          · exact List.mem_of_mem_take hy
          · exact List.mem_of_mem_take (List.mem_of_mem_drop hy)
        obtain ⟨q, hq, rfl⟩ := List.getElem_of_mem hy2
        exact fieldL_length (hg q hq)
      have := joinL_length 32 _ 54 hall
      have hlen : ((written (Fs.take j) secs).map fieldL).length ≤ 6 := by
        rw [List.length_map]
        unfold written
        split
        · rw [List.length_take]; omega
        · rw [List.length_drop, List.length_take]; omega
      have h2 : ((written (Fs.take j) secs).map fieldL).length * (54 + 1) ≤ 6 * (54 + 1) := Nat.mul_le_mul_right _ hlen
      omega
    by_cases hw : secs = true ∨ 0 < j
    · have e := written_take Fs secs j hlt hw
      rw [e, List.map_append] at hrec
      have hj1 : Ev (fun k => spec_Text.j1 k (B (joinL 32 ((written (Fs.take j) secs).map fieldL))) Fs[j] Fs 6 (j : Int) false Fs secs) (B (textL Fs secs)) := by
        by_cases hnil : (written (Fs.take j) secs).map fieldL = []
        · rw [hnil] at hrec ⊢
          refine Ev.step (f := fun k => (spec_FieldText.f k Fs[j]).bind fun t => if t.size ≤ 9223372036854775807 then spec_Text.l0 k (B [] ++ t) Fs 6 ((j + 1 : Nat) : Int) Fs secs else none) (fun k => ?_) (Ev.bind (field_ev hgj) ?_)
          · simp only [spec_Text.j1]
            rw [if_neg (by simp), if_pos (by rw [B_list]; rfl), wrap64_nat j (by omega)]
            simp [joinL, B_size]
          · refine Ev.congr (f := fun k => spec_Text.l0 k (B (joinL 32 ([] ++ [fieldL Fs[j]]))) Fs 6 ((j + 1 : Nat) : Int) Fs secs) (fun k => ?_) (by simpa using hrec)
            rw [if_pos (by rw [B_size]; omega), B_app]
            rfl
        · have hne : joinL 32 ((written (Fs.take j) secs).map fieldL) ≠ [] := by
            refine joinL_ne _ _ hnil ?_
            intro x hx
            obtain ⟨y, hy, rfl⟩ := List.mem_map.1 hx
            have hy2 : y ∈ Fs := by
              unfold written at hy
              split at hy
              · exact List.mem_of_mem_take hy
              · exact List.mem_of_mem_take (List.mem_of_mem_drop hy)
            obtain ⟨q, hq, rfl⟩ := List.getElem_of_mem hy2
            exact fieldL_ne (hg q hq)
          rw [List.map_singleton, joinL_snoc _ _ _ hnil] at hrec
          refine Ev.step (f := fun k => (spec_FieldText.f k Fs[j]).bind fun t => if (B (joinL 32 ((written (Fs.take j) secs).map fieldL) ++ [32])).size + t.size ≤ 9223372036854775807 then spec_Text.l0 k (B (joinL 32 ((written (Fs.take j) secs).map fieldL) ++ [32]) ++ t) Fs 6 ((j + 1 : Nat) : Int) Fs secs else none) (fun k => ?_) (Ev.bind (field_ev hgj) ?_)
          · simp only [spec_Text.j1]
            rw [if_neg (by simp), if_neg (by rw [B_list]; exact hne), wrap64_nat j (by omega), if_pos (by rw [B_size]; omega), show (⟨#[32]⟩ : ByteArray) = B [32] from rfl, B_app]
          · refine Ev.congr (f := fun k => spec_Text.l0 k (B (joinL 32 ((written (Fs.take j) secs).map fieldL) ++ 32 :: fieldL Fs[j])) Fs 6 ((j + 1 : Nat) : Int) Fs secs) (fun k => ?_) hrec
            rw [if_pos (by rw [B_size, B_size]; simp; omega), B_app]
            simp
      refine Ev.step (f := fun k => spec_Text.j1 k (B (joinL 32 ((written (Fs.take j) secs).map fieldL))) Fs[j] Fs 6 (j : Int) false Fs secs) (fun k => ?_) hj1
      simp only [spec_Text.l0, hrd]
      rw [if_pos (by omega), if_pos (by omega), if_pos (by omega)]
      by_cases h0 : j = 0
      · rw [if_pos (by omega)]
        have : secs = true := by rcases hw with h | h; exact h; omega
        rw [this]
        rfl
      · rw [if_neg (by omega)]
    · have hs : secs = false := by
        cases secs
        · rfl
        · exact absurd (Or.inl rfl) hw
      have h0 : j = 0 := by omega
      subst h0
      subst hs
      refine Ev.step (f := fun k => spec_Text.j1 k (B []) Fs[0] Fs 6 ((0 : Nat) : Int) true Fs false) (fun k => ?_) (Ev.step (f := fun k => spec_Text.l0 k (B []) Fs 6 ((0 + 1 : Nat) : Int) Fs false) (fun k => ?_) ?_)
      · simp only [spec_Text.l0, hrd]
        rw [if_pos (by omega), if_pos (by omega), if_pos (by omega), if_pos (by omega)]
        rfl
      · simp only [spec_Text.j1]
        rw [if_pos trivial, wrap64_nat 0 (by omega)]
      · have : written (Fs.take (0 + 1)) false = [] := by
          unfold written
          rw [if_neg (by simp), List.drop_eq_nil_of_le (by rw [List.length_take]; omega)]
        rw [this] at hrec
        exact hrec
theorem text_ev (Fs : List (List It)) (secs : Bool) (hF : GoodFs Fs) : Ev (fun k => spec_Text.f k Fs secs) (B (textL Fs secs)) := by
  have h := text_from Fs secs hF 6 0 rfl (by omega)
  unfold spec_Text.f
  rw [hF.1]
  have e : (written (Fs.take 0) secs).map fieldL = [] := by
    unfold written
    cases secs <;> simp
  rw [e] at h
  exact h
theorem goodE_spec {Fs : List (List It)} {secs : Bool} (h : goodE Fs secs = true) :
    ∃ f0 f1 f2 f3 f4 f5, Fs = [f0, f1, f2, f3, f4, f5] ∧ goodF 0 f0 = true ∧ goodF 1 f1 = true ∧ goodF 2 f2 = true ∧ goodF 3 f3 = true ∧ goodF 4 f4 = true ∧ goodF 5 f5 = true ∧ restE f0 f3 f4 f5 secs = true := by
  unfold goodE at h
  split at h
  · rename_i f0 f1 f2 f3 f4 f5
    simp only [Bool.and_eq_true] at h
    exact ⟨f0, f1, f2, f3, f4, f5, rfl, h.1, h.2.1, h.2.2.1, h.2.2.2.1, h.2.2.2.2.1, h.2.2.2.2.2.1, h.2.2.2.2.2.2⟩
  · cases h
theorem goodE_fs {Fs : List (List It)} {secs : Bool} (h : goodE Fs secs = true) : GoodFs Fs := by
  obtain ⟨f0, f1, f2, f3, f4, f5, rfl, h0, h1, h2, h3, h4, h5, _⟩ := goodE_spec h
  refine ⟨rfl, fun j hj => ?_⟩
  match j, hj with
  | 0, _ => exact h0
  | 1, _ => exact h1
  | 2, _ => exact h2
  | 3, _ => exact h3
  | 4, _ => exact h4
  | 5, _ => exact h5
  | n + 6, h => simp at h; omega
end Go.Proofs.YtemgofomhjabpaaGreatDoor.Core
namespace Go.Proofs.YtemgofomhjabpaaGreatDoor.Core
open Go.RowKit Go.Proofs.YtemgofomhjabpaaGreatDoorW.PrintWords
def PartOk (p : List UInt8) : Prop := p ≠ [] ∧ ∀ b ∈ p, 33 ≤ b.toNat ∧ b.toNat ≤ 63
theorem joinL_mem {c : UInt8} {P : List (List UInt8)} {b : UInt8} (h : b ∈ joinL c P) : b = c ∨ ∃ p ∈ P, b ∈ p := by
  induction P with
  | nil => cases h
  | cons x t ih =>
    cases t with
    | nil => exact Or.inr ⟨x, by simp, h⟩
    | cons y t =>
      rw [joinL] at h
      rcases List.mem_append.1 h with h | h
      · exact Or.inr ⟨x, by simp, h⟩
      · rcases List.mem_cons.1 h with h | h
        · exact Or.inl h
        · rcases ih h with h | ⟨p, hp, h⟩
          · exact Or.inl h
          · exact Or.inr ⟨p, by simp [hp], h⟩
theorem splitL_join (c : UInt8) (P : List (List UInt8)) (h : P ≠ []) (hc : ∀ p ∈ P, c ∉ p) : splitL c (joinL c P) = P := by
  induction P with
  | nil => exact absurd rfl h
  | cons x t ih =>
    cases t with
    | nil => exact splitL_none c x (hc x (by simp))
    | cons y t => rw [joinL, splitL_at c x _ (hc x (by simp)), ih (by simp) (fun p hp => hc p (by simp [hp]))]
theorem noDbl_part (p r : List UInt8) (hp : ∀ b ∈ p, b ≠ 32) (hr : noDbl r = true) : noDbl (p ++ r) = true := by
  induction p with
  | nil => exact hr
  | cons a t ih =>
    have ha : (a == 32) = false := by simpa using hp a (by simp)
    have := ih (fun b hb => hp b (by simp [hb]))
    rw [List.cons_append]
    match h : t ++ r with
    | [] => rfl
    | b :: s => rw [h] at this; simp [noDbl, ha, this]
theorem noDbl_join (P : List (List UInt8)) (hP : ∀ p ∈ P, PartOk p) : noDbl (joinL 32 P) = true := by
  have h32 : ∀ p ∈ P, ∀ b ∈ p, b ≠ 32 := by
    intro p hp b hb e
    have := (hP p hp).2 b hb
    rw [e] at this
    simp at this
  induction P with
  | nil => rfl
  | cons x t ih =>
    cases t with
    | nil => have := noDbl_part x [] (h32 x (by simp)) rfl; simpa [joinL] using this
    | cons y t =>
      rw [joinL]
      refine noDbl_part x _ (h32 x (by simp)) ?_
      have hrec := ih (fun p hp => hP p (by simp [hp])) (fun p hp => h32 p (by simp [hp]))
      match h : joinL 32 (y :: t) with
      | [] => rfl
      | b :: s =>
        rw [h] at hrec
        have hb : b ≠ 32 := by
          have hy := hP y (by simp)
          match hyy : y with
          | [] => exact absurd rfl hy.1
          | z :: zs =>
            have : b = z := by
              cases t with
              | nil => rw [joinL] at h; exact (List.cons.inj h).1.symm
              | cons w t => rw [joinL, List.cons_append] at h; exact (List.cons.inj h).1.symm
            rw [this]
            exact h32 (z :: zs) (by simp) z (by simp)
        simp [noDbl, hb, hrec]
theorem getLast_join (c : UInt8) (P : List (List UInt8)) (hne : P ≠ []) (hP : ∀ p ∈ P, p ≠ []) (b : UInt8) (h : (joinL c P).getLast? = some b) : ∃ p ∈ P, b ∈ p := by
  induction P with
  | nil => exact absurd rfl hne
  | cons x t ih =>
    cases t with
    | nil => exact ⟨x, by simp, List.mem_of_getLast? h⟩
    | cons y t =>
      have hy : joinL c (y :: t) ≠ [] := joinL_ne c _ (by simp) (fun p hp => hP p (by simp [hp]))
      rw [joinL, List.getLast?_append, List.getLast?_cons_of_ne_nil hy] at h
      match hl : (joinL c (y :: t)).getLast? with
      | none => exact absurd (List.getLast?_eq_none_iff.1 hl) hy
      | some z =>
        rw [hl, Option.some_or] at h
        obtain ⟨p, hp, hb⟩ := ih (by simp) (fun p hp => hP p (by simp [hp])) (by rw [hl]; exact h)
        exact ⟨p, by simp [hp], hb⟩
theorem head_join (c : UInt8) (P : List (List UInt8)) (hne : P ≠ []) (hP : ∀ p ∈ P, p ≠ []) (b : UInt8) (h : (joinL c P).head? = some b) : ∃ p ∈ P, b ∈ p := by
  match P, hne with
  | [x], _ => exact ⟨x, by simp, List.mem_of_mem_head? h⟩
  | x :: y :: t, _ =>
    match hx : x with
    | [] => exact absurd rfl (hP [] (by simp))
    | z :: zs =>
      rw [joinL, List.cons_append, List.head?_cons] at h
      exact ⟨z :: zs, by simp, by rw [← Option.some.inj h]; simp⟩
theorem normalize_ev (P : List (List UInt8)) (hne : P ≠ []) (hP : ∀ p ∈ P, PartOk p) (hl : (joinL 32 P).length < 8796093022208) : Ev (fun k => gronx_normalize.f k (B (joinL 32 P))) (P.map B) := by
  have hpl : ∀ b ∈ joinL 32 P, plainB b = true := by
    intro b hb
    rcases joinL_mem hb with h | ⟨p, hp, h⟩
    · subst h; rfl
    · have := (hP p hp).2 b h
      unfold plainB
      rw [decide_eq_true this.1, decide_eq_true this.2]
      simp
  have h63 : ∀ b ∈ joinL 32 P, b.toNat ≤ 63 := by
    intro b hb
    rcases joinL_mem hb with h | ⟨p, hp, h⟩
    · subst h; decide
    · exact ((hP p hp).2 b h).2
  have hends : ∀ b, (∃ p ∈ P, b ∈ p) → b ≠ 32 ∧ b ≠ 9 := by
    rintro b ⟨p, hp, h⟩
    have := (hP p hp).2 b h
    constructor <;> (intro e; subst e; simp at this)
  have hd := noDbl_join P hP
  have hjn : joinL 32 P ≠ [] := joinL_ne _ _ hne (fun p hp => (hP p hp).1)
  unfold gronx_normalize.f
  refine Ev.bind (f := fun k t174 => ((strings_ToLower.f t174).bind fun t175 => ((gronx_expression.f t175).bind fun bt176 => (if bt176.2 = true then (gronx_normalize.j0 k bt176.1) else (gronx_normalize.j0 k t174))))) (zzTrim_ev _ (by omega) hjn (fun b hb => hends b (head_join 32 P hne (fun p hp => (hP p hp).1) b hb)) (fun b hb => hends b (getLast_join 32 P hne (fun p hp => (hP p hp).1) b hb))) ?_
  refine Ev.congr (f := fun k => gronx_normalize.j0 k (B (joinL 32 P))) (fun k => ?_) ?_
  · simp only [toLower_plain _ (by omega : (joinL 32 P).length ≤ 140737488355328) h63, Option.bind_some, expression_no _ h63]
    rw [if_neg (by simp)]
  · refine Ev.step (f := fun k => (gronx_zzSpaces.f k (B (joinL 32 P))).bind fun t178 => ((strings_ToUpper.f t178).bind fun t179 => ((gronx_zzLiterals.f k t179).bind fun t180 => ((gronx_zzReplaceAll.f k t180 (⟨#[32, 32]⟩ : ByteArray) (⟨#[32]⟩ : ByteArray)).bind fun t181 => ((gronx_zzSplit.f k t181 (⟨#[32]⟩ : ByteArray)).bind fun t182 => (some t182)))))) (fun k => by simp only [gronx_normalize.j0]) ?_
    refine Ev.bind (zzSpaces_ev _ (by omega) hd hpl) ?_
    refine Ev.congr (f := fun k => (gronx_zzLiterals.f k (B (joinL 32 P))).bind fun t180 => ((gronx_zzReplaceAll.f k t180 (⟨#[32, 32]⟩ : ByteArray) (⟨#[32]⟩ : ByteArray)).bind fun t181 => ((gronx_zzSplit.f k t181 (⟨#[32]⟩ : ByteArray)).bind fun t182 => (some t182)))) (fun k => by rw [toUpper_plain _ (by omega : (joinL 32 P).length ≤ 140737488355328) h63]; rfl) ?_
    refine Ev.bind (zzLiterals_ev _ (by omega) h63) ?_
    refine Ev.bind (f := fun k t181 => ((gronx_zzSplit.f k t181 (⟨#[32]⟩ : ByteArray)).bind fun t182 => (some t182))) (zzReplace_no _ [32, 32] [32] (by simp) (by simp) (noDbl_idx _ hd 0) (by omega)) ?_
    have hs := zzSplit_ev 32 (joinL 32 P) hl
    rw [splitL_join 32 P hne (fun p hp e => by have := (hP p hp).2 32 e; simp at this)] at hs
    exact Ev.bind hs (Ev.const rfl)
theorem segments_ev (P : List (List UInt8)) (hP : ∀ p ∈ P, PartOk p) (hl : (joinL 32 P).length < 8796093022208) (h5 : 5 ≤ P.length) (h7 : P.length ≤ 7) (h5l : ∀ h : P.length = 6, (P[5]'(by omega)).length < 4611686018427387904) :
    Ev (fun k => gronx_Segments.f k (B (joinL 32 P))) (((if P.length = 5 ∨ (∃ h : P.length = 6, hasYr (P[5]'(by omega)) 0 = true) then [48] :: P else P).map B), none) := by
  have hne : P ≠ [] := by intro e; rw [e] at h5; simp at h5
  unfold gronx_Segments.f
  refine Ev.bind (f := fun k t185 => (if (t185.length : Int) < 5 then (gronx_Segments.j0 k t185 (t185.length : Int) true) else (gronx_Segments.j0 k t185 (t185.length : Int) (decide ((t185.length : Int) > 7))))) (normalize_ev P hne hP hl) ?_
  rw [List.length_map]
  refine Ev.congr (f := fun k => gronx_Segments.j0 k (P.map B) (P.length : Int) false) (fun k => ?_) ?_
  · rw [if_neg (by omega), decide_eq_false (by omega)]
  by_cases e5 : P.length = 5
  · rw [if_pos (Or.inl e5)]
    refine Ev.done fun k => ?_
    simp only [gronx_Segments.j0]
    rw [if_neg (by simp), if_pos (by omega)]
    simp only [Option.bind_some]
    rw [if_pos (by simp; omega)]
    rfl
  · by_cases e6 : P.length = 6
    · have hy := zzHasYear_ev (P[5]'(by omega)) (h5l e6)
      have hrd : rdOf ByteArray.empty (P.map B) 5 = B (P[5]'(by omega)) := by simp [rdOf, e6]
      refine Ev.step (f := fun k => (gronx_zzHasYear.f k (B (P[5]'(by omega)))).bind fun t199 => (if t199 = true then ((some (([(⟨#[48]⟩ : ByteArray)] : List ByteArray) : List ByteArray)).bind fun y200 => (if y200.length + (P.map B).length < 8796093022208 then (some ((y200 ++ P.map B), none)) else (none))) else (some (P.map B, none)))) (fun k => ?_) (Ev.bind hy (Ev.const ?_))
      · simp only [gronx_Segments.j0]
        rw [if_neg (by simp), if_neg (by omega), if_pos (by omega), if_pos (by simp; omega), hrd]
      · cases hb : hasYr (P[5]'(by omega)) 0 with
        | true =>
          rw [if_pos rfl, if_pos (Or.inr ⟨e6, hb⟩)]
          simp only [Option.bind_some]
          rw [if_pos (by simp; omega)]
          rfl
        | false =>
          rw [if_neg (by simp), if_neg (by rintro (h | ⟨_, h⟩); omega; rw [hb] at h; cases h)]
    · rw [if_neg (by rintro (h | ⟨h, _⟩) <;> omega)]
      refine Ev.done fun k => ?_
      simp only [gronx_Segments.j0]
      rw [if_neg (by simp), if_neg (by omega), if_neg (by omega)]
def nd (c : UInt8) : Prop := c.toNat < 48 ∨ 57 < c.toNat
def StartsNd (r : List UInt8) : Prop := r = [] ∨ ∃ c r', r = c :: r' ∧ nd c
def NoYr (l : List UInt8) : Prop := ∀ r, StartsNd r → hasYr (l ++ r) 0 = hasYr r 0
theorem noYr_nil : NoYr [] := fun _ _ => rfl
theorem hasYr_run (p r : List UInt8) (hp : ∀ b ∈ p, 48 ≤ b.toNat ∧ b.toNat ≤ 57) (hr : StartsNd r) (n : Nat) (h : p.length + n < 4) : hasYr (p ++ r) n = hasYr r 0 := by
  induction p generalizing n with
  | nil =>
    rcases hr with rfl | ⟨c, r', rfl, hc⟩
    · rfl
    · simp [hasYr, show c.toNat < 48 ∨ 57 < c.toNat from hc]
  | cons a t ih =>
    have ha := hp a (by simp)
    simp only [List.length_cons] at h
    rw [List.cons_append, hasYr, if_neg (by omega), if_neg (by omega)]
    exact ih (fun b hb => hp b (by simp [hb])) (n + 1) (by omega)
theorem noYr_digits (p : List UInt8) (hp : ∀ b ∈ p, 48 ≤ b.toNat ∧ b.toNat ≤ 57) (h : p.length < 4) : NoYr p := fun r hr => hasYr_run p r hp hr 0 (by omega)
theorem noYr_cons (c : UInt8) (l : List UInt8) (hc : nd c) (h : NoYr l) : NoYr (c :: l) := by
  intro r hr
  rw [List.cons_append, hasYr, if_pos (show c.toNat < 48 ∨ 57 < c.toNat from hc)]
  exact h r hr
theorem noYr_app (l m : List UInt8) (h : NoYr l) (hm : NoYr m) (hs : StartsNd m) : NoYr (l ++ m) := by
  intro r hr
  rw [List.append_assoc, h (m ++ r) ?_]
  · exact hm r hr
  · rcases hs with rfl | ⟨c, m', rfl, hc⟩
    · exact hr
    · exact Or.inr ⟨c, m' ++ r, rfl, hc⟩
theorem noYr_step (s : Int) (h : s ≤ 60) : NoYr (stepL s) ∧ StartsNd (stepL s) := by
  unfold stepL
  split
  · have := decN_two s.toNat (by omega)
    exact ⟨noYr_cons 47 _ (by unfold nd; decide) (noYr_digits _ (decN_digit _) (by omega)), Or.inr ⟨47, _, rfl, by unfold nd; decide⟩⟩
  · exact ⟨noYr_nil, Or.inl rfl⟩
theorem noYr_item {i : Nat} {x : It} (h : goodItem i x = true) : NoYr (itemL x) := by
  obtain ⟨s1, s2, hr⟩ := goodItem_spec h
  obtain ⟨q1, q2⟩ := noYr_step x.f3 s2
  unfold itemL
  cases h0 : x.f0 with
  | true => rw [if_pos rfl]; exact noYr_cons 42 _ (by unfold nd; decide) q1
  | false =>
    obtain ⟨r1, r2, r3, _, _⟩ := hr h0
    have l1 := decN_two x.f1.toNat (by omega)
    have l2 := decN_two x.f2.toNat (by omega)
    rw [if_neg (by simp)]
    refine noYr_app _ _ (noYr_digits _ (decN_digit _) (by omega)) ?_ ?_
    · split
      · exact noYr_app _ _ (noYr_cons 45 _ (by unfold nd; decide) (noYr_digits _ (decN_digit _) (by omega))) q1 q2
      · exact q1
    · split
      · exact Or.inr ⟨45, _, rfl, by unfold nd; decide⟩
      · exact q2
theorem noYr_join (P : List (List UInt8)) (h : ∀ p ∈ P, NoYr p) : NoYr (joinL 44 P) := by
  induction P with
  | nil => exact noYr_nil
  | cons x t ih =>
    cases t with
    | nil => exact h x (by simp)
    | cons y t =>
      rw [joinL]
      have hc : nd 44 := by unfold nd; decide
      exact noYr_app _ _ (h x (by simp)) (noYr_cons 44 _ hc (ih (fun p hp => h p (by simp [hp])))) (Or.inr ⟨44, _, rfl, hc⟩)
theorem field_noYr {i : Nat} {l : List It} (h : goodF i l = true) : hasYr (fieldL l) 0 = false := by
  obtain ⟨hg, _, _⟩ := goodF_spec h
  have := noYr_join (l.map itemL) (by intro p hp; obtain ⟨x, hx, rfl⟩ := List.mem_map.1 hp; exact noYr_item (hg x hx)) [] (Or.inl rfl)
  rw [List.append_nil] at this
  exact this
theorem decN_part (n : Nat) : ∀ b ∈ decN n, 33 ≤ b.toNat ∧ b.toNat ≤ 63 := fun b hb => by have := decN_digit n b hb; omega
theorem itemL_part (x : It) : ∀ b ∈ itemL x, 33 ≤ b.toNat ∧ b.toNat ≤ 63 := by
  have hs : ∀ b ∈ stepL x.f3, 33 ≤ b.toNat ∧ b.toNat ≤ 63 := by
    intro b hb
    unfold stepL at hb
    split at hb
    · rcases List.mem_cons.1 hb with h | h
      · subst h; decide
      · exact decN_part _ b h
    · cases hb
  intro b hb
  unfold itemL at hb
  split at hb
  · rcases List.mem_cons.1 hb with h | h
    · subst h; decide
    · exact hs b h
  · rcases List.mem_append.1 hb with h | h
    · exact decN_part _ b h
    · rcases List.mem_append.1 h with h | h
      · split at h
        · rcases List.mem_cons.1 h with h | h
          · subst h; decide
          · exact decN_part _ b h
        · cases h
      · exact hs b h
theorem field_part {i : Nat} {l : List It} (h : goodF i l = true) : PartOk (fieldL l) := by
  refine ⟨fieldL_ne h, fun b hb => ?_⟩
  rcases joinL_mem hb with h | ⟨p, hp, h⟩
  · subst h; decide
  · obtain ⟨x, _, rfl⟩ := List.mem_map.1 hp
    exact itemL_part x b h
theorem zeroF_field {l : List It} (h : zeroF l = true) : fieldL l = [48] := by
  unfold zeroF at h
  split at h
  · rename_i x
    simp only [Bool.and_eq_true, Bool.not_eq_true', beq_iff_eq] at h
    obtain ⟨⟨⟨h0, h1⟩, h2⟩, h3⟩ := h
    simp [fieldL, joinL, itemL, stepL, h0, h1, h2, h3, decN_lt]
  · cases h
theorem exprSegments_ev {Fs : List (List It)} {secs : Bool} (h : goodE Fs secs = true) : Ev (fun k => gronx_Segments.f k (B (textL Fs secs))) (Fs.map fun f => B (fieldL f), none) := by
  obtain ⟨f0, f1, f2, f3, f4, f5, rfl, h0, h1, h2, h3, h4, h5, hr⟩ := goodE_spec h
  have l0 := fieldL_length h0
  have l1 := fieldL_length h1
  have l2 := fieldL_length h2
  have l3 := fieldL_length h3
  have l4 := fieldL_length h4
  have l5 := fieldL_length h5
  cases secs with
  | true =>
    have hs := segments_ev [fieldL f0, fieldL f1, fieldL f2, fieldL f3, fieldL f4, fieldL f5] (by
      intro p hp
      simp only [List.mem_cons, List.not_mem_nil, or_false] at hp
      rcases hp with rfl | rfl | rfl | rfl | rfl | rfl
      · exact field_part h0
      · exact field_part h1
      · exact field_part h2
      · exact field_part h3
      · exact field_part h4
      · exact field_part h5) (by simp [joinL]; omega) (by simp) (by simp) (by intro _; simp; omega)
    rw [if_neg (by simp [field_noYr h5])] at hs
    exact hs
  | false =>
    have hs := segments_ev [fieldL f1, fieldL f2, fieldL f3, fieldL f4, fieldL f5] (by
      intro p hp
      simp only [List.mem_cons, List.not_mem_nil, or_false] at hp
      rcases hp with rfl | rfl | rfl | rfl | rfl
      · exact field_part h1
      · exact field_part h2
      · exact field_part h3
      · exact field_part h4
      · exact field_part h5) (by simp [joinL]; omega) (by simp) (by simp) (by intro h; simp at h)
    rw [if_pos (by simp)] at hs
    have hz : zeroF f0 = true := by
      unfold restE at hr
      simp only [Bool.and_eq_true, Bool.false_or] at hr
      exact hr.1.1
    have e := zeroF_field hz
    simp only [List.map_cons, List.map_nil, e]
    exact hs
end Go.Proofs.YtemgofomhjabpaaGreatDoor.Core
namespace Go.Proofs.YtemgofomhjabpaaGreatDoor.Core
open Go.RowKit Go.Proofs.YtemgofomhjabpaaGreatDoorW.PrintWords
def hasIt (i : Nat) (x : It) (n : Int) : Bool := decide ((if x.f0 then lowI i else x.f1) ≤ n ∧ n ≤ (if x.f0 then highI i else x.f2) ∧ (n - (if x.f0 then lowI i else x.f1)) % x.f3 = 0)
def hasF (i : Nat) (l : List It) (n : Int) : Bool := l.any fun x => hasIt i x n
end Go.Proofs.YtemgofomhjabpaaGreatDoor.Core
namespace Go.Proofs.YtemgofomhjabpaaGreatDoor.Core
open Go.RowKit Go.Proofs.YtemgofomhjabpaaGreatDoorW.PrintWords Go.Proofs.YtemgofomhjabpaaGreatDoorW.PrintLast Go.Proofs.YtemgofomhjabpaaGreatDoorW.PrintMore
attribute [local go_sem] max2_int min2_int max_two min_two max_three min_three max_four min_four   -- for this text's walks alone
set_option linter.unusedVariables false
set_option linter.unusedSimpArgs false
mutual
def gronx_inStepRange.l0 : Nat → Int → Int → Int → Int → Option (Bool)
  | 0, _, _, _, _ => none
  | k + 1, x0, x2, x3, x9 => if x9 ≤ x2 then (gronx_inStepRange.j1 k x0 x2 x3 x9 (decide (x9 ≤ x0))) else (gronx_inStepRange.j1 k x0 x2 x3 x9 false)
def gronx_inStepRange.j1 : Nat → Int → Int → Int → Int → Bool → Option (Bool)
  | 0, _, _, _, _, _ => none
  | k + 1, x0, x2, x3, x9, x18 => if x18 = true then (if x9 = x0 then (some true) else (gronx_inStepRange.l0 k x0 x2 x3 (wrap64 (x9 + x3)))) else (some false)
end
def gronx_inStepRange.f (k : Nat) (a0 : Int) (a1 : Int) (a2 : Int) (a3 : Int) : Option (Bool) := gronx_inStepRange.l0 k a0 a2 a3 a1
set_option maxHeartbeats 8000000 in
set_option maxRecDepth 100000 in
theorem gronx_inStepRange.calls (k : Nat) (a0 : Int) (a1 : Int) (a2 : Int) (a3 : Int) (r : Bool) (w : World) (h : gronx_inStepRange.f k a0 a1 a2 a3 = some r) :
    Calls Tryz.prog 147 #[.int .i64 a0, .int .i64 a1, .int .i64 a2, .int .i64 a3] w fun e w' => e = .returned (.bool r) ∧ Drawn0 w w' := by
  have H : (gronx_inStepRange.l0 k a0 a2 a3 a1) = some r := h
  clear h
  have H' := Aside0.mk H
  clear H
  go_enter Tryz.func147, Tryz.ntmps147
  go_wp2
  go_loopg [9] k (fun kq v9 w' => ∃ (x9_1 : Int), v9 = .int .i64 x9_1 ∧ Aside0 (gronx_inStepRange.l0 kq a0 a2 a3 x9_1 = some r) ∧ Aside0 (kq ≤ k) ∧ Drawn0 w w')
  case atStart => exact ⟨(a1), (by first | rfl | (simp; done) | (simp [*]; done)), H', ⟨Nat.le_refl _⟩, by repeat (first | exact Drawn0.refl _ | apply Drawn0.step)⟩
  case round =>
    clear H'
    try clear c1
    try clear p2
    obtain ⟨x9_1, rfl, HA, HK1, ⟨m1, rfl⟩⟩ := hrel
    cases gk with
    | zero => exact absurd HA.out (by simp [gronx_inStepRange.l0])
    | succ k1 =>
      have H := HA.out
      clear HA
      simp only [gronx_inStepRange.l0] at H
      have HC5 := Aside0.mk H
      clear H
      go_upto_region 2 with (fail)
      go_cut [18] (fun v18 wc => ∃ (kq : Nat) (x18_4 : Bool), v18 = .bool x18_4 ∧ Aside0 (gronx_inStepRange.j1 kq a0 a2 a3 x9_1 x18_4 = some r) ∧ Aside0 (kq ≤ k1) ∧ Drawn0 w wc)
      case first =>
        have H := HC5.out
        clear HC5
        by_cases c6 : x9_1 ≤ a2
        · rw [if_pos c6] at H
          have c6b0 : decide (x9_1 ≤ a2) = true := decide_eq_true c6
          clear c6
          (first | rw [c6b0] | (simp only [i64_w, i32_w]; rw [c6b0]) | skip)
          have H' := Aside0.mk H
          clear H
          go_wp2
          go_meet
          case rel => exact ⟨_, (decide (x9_1 ≤ a0)), (by first | rfl | (simp; done) | (simp [*]; done)), H', ⟨by have := HK1.out; first | omega | exact Nat.le_refl _⟩, by repeat (first | exact Drawn0.refl _ | apply Drawn0.step)⟩
        · rw [if_neg c6] at H
          have c6b0 : decide (x9_1 ≤ a2) = false := decide_eq_false c6
          clear c6
          (first | rw [c6b0] | (simp only [i64_w, i32_w]; rw [c6b0]) | skip)
          have H' := Aside0.mk H
          clear H
          go_wp2
          go_meet
          case rel => exact ⟨_, (false), (by first | rfl | (simp; done) | (simp [*]; done)), H', ⟨by have := HK1.out; first | omega | exact Nat.le_refl _⟩, by repeat (first | exact Drawn0.refl _ | apply Drawn0.step)⟩
      case rest =>
        clear HC5
        try clear c1
        try clear p2
        try clear c6
        try clear c6b0
        try clear p2
        obtain ⟨kq, x18_4, rfl, HA, HJ4, ⟨mc4, rfl⟩⟩ := hcut
        cases kq with
        | zero => exact absurd HA.out (by simp [gronx_inStepRange.j1])
        | succ kj4 =>
          have H := HA.out
          clear HA
          simp only [gronx_inStepRange.j1] at H
          by_cases c7 : x18_4 = true
          · subst c7
            have H1 : (if x9_1 = a0 then (some true) else (gronx_inStepRange.l0 kj4 a0 a2 a3 (wrap64 (x9_1 + a3)))) = some r := by rw [if_pos rfl] at H; exact H
            clear H
            have H := H1
            clear H1
            by_cases c8 : x9_1 = a0
            · rw [if_pos c8] at H
              have c8b0 : (x9_1 == a0) = true := beq_iff_eq.mpr c8
              have c8b1 : (x9_1 != a0) = false := bne_eq_false_iff_eq.mpr c8
              clear c8
              obtain rfl := Option.some.inj H
              go_wp2
              go_ret
              exact ⟨by first | rfl | (simp; done) | (simp [*]; done), by repeat (first | exact Drawn0.refl _ | apply Drawn0.step)⟩
            · rw [if_neg c8] at H
              have c8b0 : (x9_1 == a0) = false := beq_eq_false_iff_ne.mpr c8
              have c8b1 : (x9_1 != a0) = true := bne_iff_ne.mpr c8
              have H' := Aside0.mk H
              clear H
              go_wp2
              go_roundg kj4
              case measure => have := HK1.out; have := HJ4.out; omega
              case rel => exact ⟨(wrap64 (x9_1 + a3)), (by first | rfl | (simp; done) | (simp [*]; done)), H', ⟨by have := HK1.out; have := HJ4.out; omega⟩, by repeat (first | exact Drawn0.refl _ | apply Drawn0.step)⟩
          · replace c7 := Bool.eq_false_iff.mpr c7
            subst c7
            have H1 : (some false) = some r := by rw [if_neg (show ¬ (false = true) by decide)] at H; exact H
            clear H
            have H := H1
            clear H1
            obtain rfl := Option.some.inj H
            go_wp2
            go_ret
            exact ⟨by first | rfl | (simp; done) | (simp [*]; done), by repeat (first | exact Drawn0.refl _ | apply Drawn0.step)⟩
end Go.Proofs.YtemgofomhjabpaaGreatDoor.Core
namespace Go.Proofs.YtemgofomhjabpaaGreatDoor.Core
open Go.RowKit Go.Proofs.YtemgofomhjabpaaGreatDoorW.PrintWords Go.Proofs.YtemgofomhjabpaaGreatDoorW.PrintLast Go.Proofs.YtemgofomhjabpaaGreatDoorW.PrintMore
attribute [local go_sem] max2_int min2_int max_two min_two max_three min_three max_four min_four   -- for this text's walks alone
set_option linter.unusedVariables false
set_option linter.unusedSimpArgs false
def gronx_boundsByPos.j0 : Nat → List Int → Int → Bool → Option (List Int)
  | 0, _, _, _ => none
  | k + 1, x2, x4, x5 => if x5 = true then (some (([0, 59] : List Int))) else (if x4 = 2 then (some (([0, 23] : List Int))) else (if x4 = 3 then (some (([1, 31] : List Int))) else (if x4 = 4 then (some (([1, 12] : List Int))) else (if x4 = 5 then (some (([0, 7] : List Int))) else (if x4 = 6 then (some (([0, 9999] : List Int))) else (some x2))))))
def gronx_boundsByPos.f (k : Nat) (a0 : Int) : Option (List Int) := (some (([0, 0] : List Int) : List Int)).bind fun y476 => (if a0 = 0 then (gronx_boundsByPos.j0 k y476 a0 (a0 == 0)) else (gronx_boundsByPos.j0 k y476 a0 (a0 == 1)))
set_option maxHeartbeats 8000000 in
set_option maxRecDepth 100000 in
theorem gronx_boundsByPos.calls (k : Nat) (a0 : Int) (r : List Int) (w : World) (h : gronx_boundsByPos.f k a0 = some r) :
    Calls Tryz.prog 132 #[.int .i64 a0] w fun e w' => ∃ v0_ : Value, e = .returned (v0_) ∧ Kd.R (Kd.int .i64) 3 w' w.heap.size (fun _ => True) v0_ r ∧ Below w.heap.size w w' := by
  have HB := Aside0.mk (Below.refl w.heap.size w)
  have H : ((some (([0, 0] : List Int) : List Int)).bind fun y476 => (if a0 = 0 then (gronx_boundsByPos.j0 k y476 a0 (a0 == 0)) else (gronx_boundsByPos.j0 k y476 a0 (a0 == 1)))) = some r := h
  clear h
  obtain ⟨y476, hy476⟩ : ∃ y_ : List Int, y_ = (([0, 0] : List Int)) := ⟨_, rfl⟩
  replace H : (if a0 = 0 then (gronx_boundsByPos.j0 k y476 a0 (a0 == 0)) else (gronx_boundsByPos.j0 k y476 a0 (a0 == 1))) = some r := by first | (rw [hy476]; with_reducible exact H) | (have H2_ := (Option.bind_some _ _).symm.trans H; rw [hy476]; with_reducible exact H2_) | (have H2_ := (Option.bind_some _ _).symm.trans H; with_reducible exact H2_) | with_reducible exact H | (rw [hy476]; exact H) | exact H
  have Ny476 := Aside0.mk hy476
  clear hy476
  have HC2 := Aside0.mk H
  clear H
  go_enter Tryz.func132, Tryz.ntmps132
  go_upto_if 5 with (first | ((with_reducible refine gate_dst (N := 3) rfl ?_); refine Kd.R_lit (Kd.int .i64) _ 3 ?hg (N := 3) ?hd (xs := ([0, 0] : List Int)) (inner := [.int .i64 0, .int .i64 0]) (ok := fun _ => True) (okp := fun _ => True) ?hr ?hp (fun _ hk => hk) trivial (Below.refl _ _) (Nat.le_refl _) (by simp) ?_; (case hd => rfl); (case hg => rfl); (case hr => first | (go_simp; done) | (go_simp; rfl)); (case hp => exact (Reps.one (show Kd.M (Kd.int .i64) _ _ _ 0 [.int .i64 0] from rfl) (Reps.one (show Kd.M (Kd.int .i64) _ _ _ 0 [.int .i64 0] from rfl) (Reps.none _ _)))); intro v477 w3 ho4 hb hg_ hnew_; clear hg_ hnew_; (first | rw [← Ny476.out] at ho4 | (simp only [Int.reduceToNat] at ho4; rw [← Ny476.out] at ho4)); have n0_ := Aside0.mk (Kd.R_lower ho4 (below_size (by repeat (first | (with_reducible first | exact HB.out | apply below_alloc | apply pw_below_drewN | apply below_drew1) | exact HB.out)))); have n1_ := Aside0.mk (below_step (by repeat (first | (with_reducible first | exact HB.out | apply below_alloc | apply pw_below_drewN | apply below_drew1) | exact HB.out)) hb); clear HB; have HO478 := n0_; have HB := n1_; clear n0_ n1_; clear hb ho4))
  (try simp only [Act.put, List.setIfInBounds_toArray, List.set_cons_zero, List.set_cons_succ])
  go_cut [5] (fun v5 wc => ∃ (kq : Nat) (x5_1 : Bool), v5 = .bool x5_1 ∧ Aside0 (gronx_boundsByPos.j0 kq y476 a0 x5_1 = some r) ∧ Aside0 (kq ≤ k) ∧ Aside0 (Kd.R (Kd.int .i64) 3 wc w.heap.size (fun _ => True) v477 y476) ∧ Aside0 (Below w.heap.size w wc))
  case first =>
    have H := HC2.out
    clear HC2
    by_cases c5 : a0 = 0
    · rw [if_pos c5] at H
      have c5b0 : (a0 == 0) = true := beq_iff_eq.mpr c5
      have c5b1 : (a0 != 0) = false := bne_eq_false_iff_eq.mpr c5
      clear c5
      (first | rw [c5b0] | (simp only [i64_w, i32_w]; rw [c5b0]) | skip)
      have H' := Aside0.mk H
      clear H
      go_wp2
      go_meet
      case rel => exact ⟨_, ((a0 == 0)), (by first | rfl | (simp; done) | (simp [*]; done)), H', ⟨by first | omega | exact Nat.le_refl _⟩, ⟨by (with_reducible repeat (first | apply Kd.R_alloc | apply Kd.R_drewN | apply Kd.R_drew)); exact HO478.out⟩, ⟨by repeat (first | (with_reducible first | exact HB.out | apply below_alloc | apply pw_below_drewN | apply below_drew1) | exact HB.out)⟩⟩
    · rw [if_neg c5] at H
      have c5b0 : (a0 == 0) = false := beq_eq_false_iff_ne.mpr c5
      have c5b1 : (a0 != 0) = true := bne_iff_ne.mpr c5
      (first | rw [c5b0] | (simp only [i64_w, i32_w]; rw [c5b0]) | skip)
      have H' := Aside0.mk H
      clear H
      go_wp2
      go_meet
      case rel => exact ⟨_, ((a0 == 1)), (by first | rfl | (simp; done) | (simp [*]; done)), H', ⟨by first | omega | exact Nat.le_refl _⟩, ⟨by (with_reducible repeat (first | apply Kd.R_alloc | apply Kd.R_drewN | apply Kd.R_drew)); exact HO478.out⟩, ⟨by repeat (first | (with_reducible first | exact HB.out | apply below_alloc | apply pw_below_drewN | apply below_drew1) | exact HB.out)⟩⟩
  case rest =>
    clear HC2
    try clear c1
    try clear p2
    try clear c5
    try clear c5b0
    try clear c5b1
    obtain ⟨kq, x5_1, rfl, HA, HJ1, HO_2, HB⟩ := hcut
    cases kq with
    | zero => exact absurd HA.out (by simp [gronx_boundsByPos.j0])
    | succ kj1 =>
      have H := HA.out
      clear HA
      simp only [gronx_boundsByPos.j0] at H
      by_cases c6 : x5_1 = true
      · subst c6
        have H1 : (some (([0, 59] : List Int))) = some r := by rw [if_pos rfl] at H; exact H
        clear H
        have H := H1
        clear H1
        obtain ⟨y479, hy479⟩ : ∃ y_ : List Int, y_ = (([0, 59] : List Int)) := ⟨_, rfl⟩
        replace H : (some y479) = some r := by first | (rw [hy479]; with_reducible exact H) | (have H2_ := (Option.bind_some _ _).symm.trans H; rw [hy479]; with_reducible exact H2_) | (have H2_ := (Option.bind_some _ _).symm.trans H; with_reducible exact H2_) | with_reducible exact H | (rw [hy479]; exact H) | exact H
        have Ny479 := Aside0.mk hy479
        clear hy479
        obtain rfl := Option.some.inj H
        go_wp2_with (first | ((with_reducible refine gate_dst (N := 8) rfl ?_); refine Kd.R_lit (Kd.int .i64) _ 3 ?hg (N := 8) ?hd (xs := ([0, 59] : List Int)) (inner := [.int .i64 0, .int .i64 59]) (ok := fun _ => True) (okp := fun _ => True) ?hr ?hp (fun _ hk => hk) trivial (Below.refl _ _) (Nat.le_refl _) (by simp) ?_; (case hd => rfl); (case hg => rfl); (case hr => first | (go_simp; done) | (go_simp; rfl)); (case hp => exact (Reps.one (show Kd.M (Kd.int .i64) _ _ _ 0 [.int .i64 0] from rfl) (Reps.one (show Kd.M (Kd.int .i64) _ _ _ 59 [.int .i64 59] from rfl) (Reps.none _ _)))); intro v480 w7 ho8 hb hg_ hnew_; clear hg_ hnew_; (first | rw [← Ny479.out] at ho8 | (simp only [Int.reduceToNat] at ho8; rw [← Ny479.out] at ho8)); have n0_ := Aside0.mk (Kd.R_elder' (by (with_reducible repeat (first | apply Kd.R_alloc | apply Kd.R_drewN | apply Kd.R_drew)); exact HO_2.out) (Kd.R_base ho8) hb); have n1_ := Aside0.mk (Kd.R_lower (Kd.R_new' ho8 (Kd.R_lt (by (with_reducible repeat (first | apply Kd.R_alloc | apply Kd.R_drewN | apply Kd.R_drew)); exact HO_2.out))) (below_size (by repeat (first | (with_reducible first | exact HB.out | apply below_alloc | apply pw_below_drewN | apply below_drew1) | exact HB.out)))); have n2_ := Aside0.mk (below_step (by repeat (first | (with_reducible first | exact HB.out | apply below_alloc | apply pw_below_drewN | apply below_drew1) | exact HB.out)) hb); clear HO_2; clear HB; have HO_2 := n0_; have HO481 := n1_; have HB := n2_; clear n0_ n1_ n2_; clear hb ho8))
        go_ret
        exact ⟨_, by first | rfl | (simp [errW_none, errW_some] <;> rfl) | (simp [*, errW_none, errW_some] <;> rfl), by (with_reducible repeat (first | apply Kd.R_alloc | apply Kd.R_drewN | apply Kd.R_drew)); exact Kd.R_mono HO481.out (fun _ hk => trivial), by repeat (first | (with_reducible first | exact HB.out | apply below_alloc | apply pw_below_drewN | apply below_drew1) | exact HB.out)⟩
      · replace c6 := Bool.eq_false_iff.mpr c6
        subst c6
        have H1 : (if a0 = 2 then (some (([0, 23] : List Int))) else (if a0 = 3 then (some (([1, 31] : List Int))) else (if a0 = 4 then (some (([1, 12] : List Int))) else (if a0 = 5 then (some (([0, 7] : List Int))) else (if a0 = 6 then (some (([0, 9999] : List Int))) else (some y476)))))) = some r := by rw [if_neg (show ¬ (false = true) by decide)] at H; exact H
        clear H
        have H := H1
        clear H1
        by_cases c9 : a0 = 2
        · rw [if_pos c9] at H
          have c9b0 : (a0 == 2) = true := beq_iff_eq.mpr c9
          have c9b1 : (a0 != 2) = false := bne_eq_false_iff_eq.mpr c9
          clear c9
          obtain ⟨y482, hy482⟩ : ∃ y_ : List Int, y_ = (([0, 23] : List Int)) := ⟨_, rfl⟩
          replace H : (some y482) = some r := by first | (rw [hy482]; with_reducible exact H) | (have H2_ := (Option.bind_some _ _).symm.trans H; rw [hy482]; with_reducible exact H2_) | (have H2_ := (Option.bind_some _ _).symm.trans H; with_reducible exact H2_) | with_reducible exact H | (rw [hy482]; exact H) | exact H
          have Ny482 := Aside0.mk hy482
          clear hy482
          obtain rfl := Option.some.inj H
          go_wp2_with (first | ((with_reducible refine gate_dst (N := 11) rfl ?_); refine Kd.R_lit (Kd.int .i64) _ 3 ?hg (N := 11) ?hd (xs := ([0, 23] : List Int)) (inner := [.int .i64 0, .int .i64 23]) (ok := fun _ => True) (okp := fun _ => True) ?hr ?hp (fun _ hk => hk) trivial (Below.refl _ _) (Nat.le_refl _) (by simp) ?_; (case hd => rfl); (case hg => rfl); (case hr => first | (go_simp; done) | (go_simp; rfl)); (case hp => exact (Reps.one (show Kd.M (Kd.int .i64) _ _ _ 0 [.int .i64 0] from rfl) (Reps.one (show Kd.M (Kd.int .i64) _ _ _ 23 [.int .i64 23] from rfl) (Reps.none _ _)))); intro v483 w10 ho11 hb hg_ hnew_; clear hg_ hnew_; (first | rw [← Ny482.out] at ho11 | (simp only [Int.reduceToNat] at ho11; rw [← Ny482.out] at ho11)); have n0_ := Aside0.mk (Kd.R_elder' (by (with_reducible repeat (first | apply Kd.R_alloc | apply Kd.R_drewN | apply Kd.R_drew)); exact HO_2.out) (Kd.R_base ho11) hb); have n1_ := Aside0.mk (Kd.R_lower (Kd.R_new' ho11 (Kd.R_lt (by (with_reducible repeat (first | apply Kd.R_alloc | apply Kd.R_drewN | apply Kd.R_drew)); exact HO_2.out))) (below_size (by repeat (first | (with_reducible first | exact HB.out | apply below_alloc | apply pw_below_drewN | apply below_drew1) | exact HB.out)))); have n2_ := Aside0.mk (below_step (by repeat (first | (with_reducible first | exact HB.out | apply below_alloc | apply pw_below_drewN | apply below_drew1) | exact HB.out)) hb); clear HO_2; clear HB; have HO_2 := n0_; have HO484 := n1_; have HB := n2_; clear n0_ n1_ n2_; clear hb ho11))
          go_ret
          exact ⟨_, by first | rfl | (simp [errW_none, errW_some] <;> rfl) | (simp [*, errW_none, errW_some] <;> rfl), by (with_reducible repeat (first | apply Kd.R_alloc | apply Kd.R_drewN | apply Kd.R_drew)); exact Kd.R_mono HO484.out (fun _ hk => trivial), by repeat (first | (with_reducible first | exact HB.out | apply below_alloc | apply pw_below_drewN | apply below_drew1) | exact HB.out)⟩
        · rw [if_neg c9] at H
          have c9b0 : (a0 == 2) = false := beq_eq_false_iff_ne.mpr c9
          have c9b1 : (a0 != 2) = true := bne_iff_ne.mpr c9
          by_cases c12 : a0 = 3
          · rw [if_pos c12] at H
            have c12b0 : (a0 == 3) = true := beq_iff_eq.mpr c12
            have c12b1 : (a0 != 3) = false := bne_eq_false_iff_eq.mpr c12
            clear c12
            obtain ⟨y485, hy485⟩ : ∃ y_ : List Int, y_ = (([1, 31] : List Int)) := ⟨_, rfl⟩
            replace H : (some y485) = some r := by first | (rw [hy485]; with_reducible exact H) | (have H2_ := (Option.bind_some _ _).symm.trans H; rw [hy485]; with_reducible exact H2_) | (have H2_ := (Option.bind_some _ _).symm.trans H; with_reducible exact H2_) | with_reducible exact H | (rw [hy485]; exact H) | exact H
            have Ny485 := Aside0.mk hy485
            clear hy485
            obtain rfl := Option.some.inj H
            go_wp2_with (first | ((with_reducible refine gate_dst (N := 14) rfl ?_); refine Kd.R_lit (Kd.int .i64) _ 3 ?hg (N := 14) ?hd (xs := ([1, 31] : List Int)) (inner := [.int .i64 1, .int .i64 31]) (ok := fun _ => True) (okp := fun _ => True) ?hr ?hp (fun _ hk => hk) trivial (Below.refl _ _) (Nat.le_refl _) (by simp) ?_; (case hd => rfl); (case hg => rfl); (case hr => first | (go_simp; done) | (go_simp; rfl)); (case hp => exact (Reps.one (show Kd.M (Kd.int .i64) _ _ _ 1 [.int .i64 1] from rfl) (Reps.one (show Kd.M (Kd.int .i64) _ _ _ 31 [.int .i64 31] from rfl) (Reps.none _ _)))); intro v486 w13 ho14 hb hg_ hnew_; clear hg_ hnew_; (first | rw [← Ny485.out] at ho14 | (simp only [Int.reduceToNat] at ho14; rw [← Ny485.out] at ho14)); have n0_ := Aside0.mk (Kd.R_elder' (by (with_reducible repeat (first | apply Kd.R_alloc | apply Kd.R_drewN | apply Kd.R_drew)); exact HO_2.out) (Kd.R_base ho14) hb); have n1_ := Aside0.mk (Kd.R_lower (Kd.R_new' ho14 (Kd.R_lt (by (with_reducible repeat (first | apply Kd.R_alloc | apply Kd.R_drewN | apply Kd.R_drew)); exact HO_2.out))) (below_size (by repeat (first | (with_reducible first | exact HB.out | apply below_alloc | apply pw_below_drewN | apply below_drew1) | exact HB.out)))); have n2_ := Aside0.mk (below_step (by repeat (first | (with_reducible first | exact HB.out | apply below_alloc | apply pw_below_drewN | apply below_drew1) | exact HB.out)) hb); clear HO_2; clear HB; have HO_2 := n0_; have HO487 := n1_; have HB := n2_; clear n0_ n1_ n2_; clear hb ho14))
            go_ret
            exact ⟨_, by first | rfl | (simp [errW_none, errW_some] <;> rfl) | (simp [*, errW_none, errW_some] <;> rfl), by (with_reducible repeat (first | apply Kd.R_alloc | apply Kd.R_drewN | apply Kd.R_drew)); exact Kd.R_mono HO487.out (fun _ hk => trivial), by repeat (first | (with_reducible first | exact HB.out | apply below_alloc | apply pw_below_drewN | apply below_drew1) | exact HB.out)⟩
          · rw [if_neg c12] at H
            have c12b0 : (a0 == 3) = false := beq_eq_false_iff_ne.mpr c12
            have c12b1 : (a0 != 3) = true := bne_iff_ne.mpr c12
            by_cases c15 : a0 = 4
            · rw [if_pos c15] at H
              have c15b0 : (a0 == 4) = true := beq_iff_eq.mpr c15
              have c15b1 : (a0 != 4) = false := bne_eq_false_iff_eq.mpr c15
              clear c15
              obtain ⟨y488, hy488⟩ : ∃ y_ : List Int, y_ = (([1, 12] : List Int)) := ⟨_, rfl⟩
              replace H : (some y488) = some r := by first | (rw [hy488]; with_reducible exact H) | (have H2_ := (Option.bind_some _ _).symm.trans H; rw [hy488]; with_reducible exact H2_) | (have H2_ := (Option.bind_some _ _).symm.trans H; with_reducible exact H2_) | with_reducible exact H | (rw [hy488]; exact H) | exact H
              have Ny488 := Aside0.mk hy488
              clear hy488
              obtain rfl := Option.some.inj H
              go_wp2_with (first | ((with_reducible refine gate_dst (N := 17) rfl ?_); refine Kd.R_lit (Kd.int .i64) _ 3 ?hg (N := 17) ?hd (xs := ([1, 12] : List Int)) (inner := [.int .i64 1, .int .i64 12]) (ok := fun _ => True) (okp := fun _ => True) ?hr ?hp (fun _ hk => hk) trivial (Below.refl _ _) (Nat.le_refl _) (by simp) ?_; (case hd => rfl); (case hg => rfl); (case hr => first | (go_simp; done) | (go_simp; rfl)); (case hp => exact (Reps.one (show Kd.M (Kd.int .i64) _ _ _ 1 [.int .i64 1] from rfl) (Reps.one (show Kd.M (Kd.int .i64) _ _ _ 12 [.int .i64 12] from rfl) (Reps.none _ _)))); intro v489 w16 ho17 hb hg_ hnew_; clear hg_ hnew_; (first | rw [← Ny488.out] at ho17 | (simp only [Int.reduceToNat] at ho17; rw [← Ny488.out] at ho17)); have n0_ := Aside0.mk (Kd.R_elder' (by (with_reducible repeat (first | apply Kd.R_alloc | apply Kd.R_drewN | apply Kd.R_drew)); exact HO_2.out) (Kd.R_base ho17) hb); have n1_ := Aside0.mk (Kd.R_lower (Kd.R_new' ho17 (Kd.R_lt (by (with_reducible repeat (first | apply Kd.R_alloc | apply Kd.R_drewN | apply Kd.R_drew)); exact HO_2.out))) (below_size (by repeat (first | (with_reducible first | exact HB.out | apply below_alloc | apply pw_below_drewN | apply below_drew1) | exact HB.out)))); have n2_ := Aside0.mk (below_step (by repeat (first | (with_reducible first | exact HB.out | apply below_alloc | apply pw_below_drewN | apply below_drew1) | exact HB.out)) hb); clear HO_2; clear HB; have HO_2 := n0_; have HO490 := n1_; have HB := n2_; clear n0_ n1_ n2_; clear hb ho17))
              go_ret
              exact ⟨_, by first | rfl | (simp [errW_none, errW_some] <;> rfl) | (simp [*, errW_none, errW_some] <;> rfl), by (with_reducible repeat (first | apply Kd.R_alloc | apply Kd.R_drewN | apply Kd.R_drew)); exact Kd.R_mono HO490.out (fun _ hk => trivial), by repeat (first | (with_reducible first | exact HB.out | apply below_alloc | apply pw_below_drewN | apply below_drew1) | exact HB.out)⟩
            · rw [if_neg c15] at H
              have c15b0 : (a0 == 4) = false := beq_eq_false_iff_ne.mpr c15
              have c15b1 : (a0 != 4) = true := bne_iff_ne.mpr c15
              by_cases c18 : a0 = 5
              · rw [if_pos c18] at H
                have c18b0 : (a0 == 5) = true := beq_iff_eq.mpr c18
                have c18b1 : (a0 != 5) = false := bne_eq_false_iff_eq.mpr c18
                clear c18
                obtain ⟨y491, hy491⟩ : ∃ y_ : List Int, y_ = (([0, 7] : List Int)) := ⟨_, rfl⟩
                replace H : (some y491) = some r := by first | (rw [hy491]; with_reducible exact H) | (have H2_ := (Option.bind_some _ _).symm.trans H; rw [hy491]; with_reducible exact H2_) | (have H2_ := (Option.bind_some _ _).symm.trans H; with_reducible exact H2_) | with_reducible exact H | (rw [hy491]; exact H) | exact H
                have Ny491 := Aside0.mk hy491
                clear hy491
                obtain rfl := Option.some.inj H
                go_wp2_with (first | ((with_reducible refine gate_dst (N := 20) rfl ?_); refine Kd.R_lit (Kd.int .i64) _ 3 ?hg (N := 20) ?hd (xs := ([0, 7] : List Int)) (inner := [.int .i64 0, .int .i64 7]) (ok := fun _ => True) (okp := fun _ => True) ?hr ?hp (fun _ hk => hk) trivial (Below.refl _ _) (Nat.le_refl _) (by simp) ?_; (case hd => rfl); (case hg => rfl); (case hr => first | (go_simp; done) | (go_simp; rfl)); (case hp => exact (Reps.one (show Kd.M (Kd.int .i64) _ _ _ 0 [.int .i64 0] from rfl) (Reps.one (show Kd.M (Kd.int .i64) _ _ _ 7 [.int .i64 7] from rfl) (Reps.none _ _)))); intro v492 w19 ho20 hb hg_ hnew_; clear hg_ hnew_; (first | rw [← Ny491.out] at ho20 | (simp only [Int.reduceToNat] at ho20; rw [← Ny491.out] at ho20)); have n0_ := Aside0.mk (Kd.R_elder' (by (with_reducible repeat (first | apply Kd.R_alloc | apply Kd.R_drewN | apply Kd.R_drew)); exact HO_2.out) (Kd.R_base ho20) hb); have n1_ := Aside0.mk (Kd.R_lower (Kd.R_new' ho20 (Kd.R_lt (by (with_reducible repeat (first | apply Kd.R_alloc | apply Kd.R_drewN | apply Kd.R_drew)); exact HO_2.out))) (below_size (by repeat (first | (with_reducible first | exact HB.out | apply below_alloc | apply pw_below_drewN | apply below_drew1) | exact HB.out)))); have n2_ := Aside0.mk (below_step (by repeat (first | (with_reducible first | exact HB.out | apply below_alloc | apply pw_below_drewN | apply below_drew1) | exact HB.out)) hb); clear HO_2; clear HB; have HO_2 := n0_; have HO493 := n1_; have HB := n2_; clear n0_ n1_ n2_; clear hb ho20))
                go_ret
                exact ⟨_, by first | rfl | (simp [errW_none, errW_some] <;> rfl) | (simp [*, errW_none, errW_some] <;> rfl), by (with_reducible repeat (first | apply Kd.R_alloc | apply Kd.R_drewN | apply Kd.R_drew)); exact Kd.R_mono HO493.out (fun _ hk => trivial), by repeat (first | (with_reducible first | exact HB.out | apply below_alloc | apply pw_below_drewN | apply below_drew1) | exact HB.out)⟩
              · rw [if_neg c18] at H
                have c18b0 : (a0 == 5) = false := beq_eq_false_iff_ne.mpr c18
                have c18b1 : (a0 != 5) = true := bne_iff_ne.mpr c18
                by_cases c21 : a0 = 6
                · rw [if_pos c21] at H
                  have c21b0 : (a0 == 6) = true := beq_iff_eq.mpr c21
                  have c21b1 : (a0 != 6) = false := bne_eq_false_iff_eq.mpr c21
                  clear c21
                  obtain ⟨y494, hy494⟩ : ∃ y_ : List Int, y_ = (([0, 9999] : List Int)) := ⟨_, rfl⟩
                  replace H : (some y494) = some r := by first | (rw [hy494]; with_reducible exact H) | (have H2_ := (Option.bind_some _ _).symm.trans H; rw [hy494]; with_reducible exact H2_) | (have H2_ := (Option.bind_some _ _).symm.trans H; with_reducible exact H2_) | with_reducible exact H | (rw [hy494]; exact H) | exact H
                  have Ny494 := Aside0.mk hy494
                  clear hy494
                  obtain rfl := Option.some.inj H
                  go_wp2_with (first | ((with_reducible refine gate_dst (N := 23) rfl ?_); refine Kd.R_lit (Kd.int .i64) _ 3 ?hg (N := 23) ?hd (xs := ([0, 9999] : List Int)) (inner := [.int .i64 0, .int .i64 9999]) (ok := fun _ => True) (okp := fun _ => True) ?hr ?hp (fun _ hk => hk) trivial (Below.refl _ _) (Nat.le_refl _) (by simp) ?_; (case hd => rfl); (case hg => rfl); (case hr => first | (go_simp; done) | (go_simp; rfl)); (case hp => exact (Reps.one (show Kd.M (Kd.int .i64) _ _ _ 0 [.int .i64 0] from rfl) (Reps.one (show Kd.M (Kd.int .i64) _ _ _ 9999 [.int .i64 9999] from rfl) (Reps.none _ _)))); intro v495 w22 ho23 hb hg_ hnew_; clear hg_ hnew_; (first | rw [← Ny494.out] at ho23 | (simp only [Int.reduceToNat] at ho23; rw [← Ny494.out] at ho23)); have n0_ := Aside0.mk (Kd.R_elder' (by (with_reducible repeat (first | apply Kd.R_alloc | apply Kd.R_drewN | apply Kd.R_drew)); exact HO_2.out) (Kd.R_base ho23) hb); have n1_ := Aside0.mk (Kd.R_lower (Kd.R_new' ho23 (Kd.R_lt (by (with_reducible repeat (first | apply Kd.R_alloc | apply Kd.R_drewN | apply Kd.R_drew)); exact HO_2.out))) (below_size (by repeat (first | (with_reducible first | exact HB.out | apply below_alloc | apply pw_below_drewN | apply below_drew1) | exact HB.out)))); have n2_ := Aside0.mk (below_step (by repeat (first | (with_reducible first | exact HB.out | apply below_alloc | apply pw_below_drewN | apply below_drew1) | exact HB.out)) hb); clear HO_2; clear HB; have HO_2 := n0_; have HO496 := n1_; have HB := n2_; clear n0_ n1_ n2_; clear hb ho23))
                  go_ret
                  exact ⟨_, by first | rfl | (simp [errW_none, errW_some] <;> rfl) | (simp [*, errW_none, errW_some] <;> rfl), by (with_reducible repeat (first | apply Kd.R_alloc | apply Kd.R_drewN | apply Kd.R_drew)); exact Kd.R_mono HO496.out (fun _ hk => trivial), by repeat (first | (with_reducible first | exact HB.out | apply below_alloc | apply pw_below_drewN | apply below_drew1) | exact HB.out)⟩
                · rw [if_neg c21] at H
                  have c21b0 : (a0 == 6) = false := beq_eq_false_iff_ne.mpr c21
                  have c21b1 : (a0 != 6) = true := bne_iff_ne.mpr c21
                  obtain rfl := Option.some.inj H
                  go_wp2
                  go_ret
                  exact ⟨_, by first | rfl | (simp [errW_none, errW_some] <;> rfl) | (simp [*, errW_none, errW_some] <;> rfl), by (with_reducible repeat (first | apply Kd.R_alloc | apply Kd.R_drewN | apply Kd.R_drew)); exact HO_2.out, by repeat (first | (with_reducible first | exact HB.out | apply below_alloc | apply pw_below_drewN | apply below_drew1) | exact HB.out)⟩
end Go.Proofs.YtemgofomhjabpaaGreatDoor.Core
namespace Go.Proofs.YtemgofomhjabpaaGreatDoor.Core
open Go.RowKit Go.Proofs.YtemgofomhjabpaaGreatDoorW.PrintWords Go.Proofs.YtemgofomhjabpaaGreatDoorW.PrintLast Go.Proofs.YtemgofomhjabpaaGreatDoorW.PrintMore
attribute [local go_sem] max2_int min2_int max_two min_two max_three min_three max_four min_four   -- for this text's walks alone
set_option linter.unusedVariables false
set_option linter.unusedSimpArgs false
def gronx_zzContains.f (k : Nat) (a0 : ByteArray) (a1 : ByteArray) : Option (Bool) := (gronx_zzIndex.f k a0 a1).bind fun t497 => (some (decide (t497 ≥ 0)))
set_option maxHeartbeats 8000000 in
set_option maxRecDepth 100000 in
theorem gronx_zzContains.calls (k : Nat) (a0 : ByteArray) (a1 : ByteArray) (r : Bool) (w : World) (h : gronx_zzContains.f k a0 a1 = some r) :
    Calls Tryz.prog 133 #[.string a0, .string a1] w fun e w' => e = .returned (.bool r) ∧ Drawn0 w w' := by
  have H : ((gronx_zzIndex.f k a0 a1).bind fun t497 => (some (decide (t497 ≥ 0)))) = some r := h
  clear h
  replace H := Option.bind_eq_some_iff.mp H
  obtain ⟨t497, A30, H⟩ := H
  replace H : (some (decide (t497 ≥ 0))) = some r := H
  have A3 := Aside0.mk A30
  clear A30
  obtain rfl := Option.some.inj H
  go_enter Tryz.func133, Tryz.ntmps133
  go_wp2_with (first | ((with_reducible refine gate_callee (f := 50) rfl ?_); refine goesL_ (some 7) rfl rfl Tryz.func50 (by kernel_rfl) rfl #[.string a0, .string a1] rfl (by (try simp only [List.map_toArray, List.map_cons, List.map_nil]); first | done | rfl | (simp only [List.length_drop, List.length_take]; rfl)) ?_; (with_reducible refine (gronx_zzIndex.calls k a0 a1 t497 _ A3.out).mono ?_); rintro e w' ⟨rfl, ⟨nd, rfl⟩⟩; refine ⟨_, rfl, ?_⟩))
  go_ret
  exact ⟨by first | rfl | (simp; done) | (simp [*]; done), by repeat (first | exact Drawn0.refl _ | apply Drawn0.step)⟩
end Go.Proofs.YtemgofomhjabpaaGreatDoor.Core
namespace Go.Proofs.YtemgofomhjabpaaGreatDoor.Core
open Go.RowKit Go.Proofs.YtemgofomhjabpaaGreatDoorW.PrintWords
def strconv_Atoi.f (a0 : ByteArray) : Option (Int × Option Int) := if a0.size ≤ 18 then ((Lib.atoi a0.data.toList).bind fun n => some (n, none)) else none
theorem strconv_Atoi.calls (a0 : ByteArray) (r1 : Int) (r2 : Option Int) (w : World) (h : strconv_Atoi.f a0 = some (r1, r2)) :
    Calls Tryz.prog 136 #[.string a0] w fun e w' => e = .returned (.tuple #[.int .i64 r1, errW r2]) ∧ Below w.heap.size w w' := by
  unfold strconv_Atoi.f at h
  split at h
  · rename_i h1
    obtain ⟨n, hn, h⟩ := Option.bind_eq_some_iff.1 h
    simp only [Option.some.injEq, Prod.mk.injEq] at h
    obtain ⟨rfl, rfl⟩ := h
    refine (Tryz.strconv_Atoi a0 n h1 hn w).mono ?_
    rintro e w' ⟨rfl, t, rfl⟩
    exact ⟨rfl, bytes_below (Below.refl _ _) (Nat.le_refl _) _ _⟩
  · cases h
end Go.Proofs.YtemgofomhjabpaaGreatDoor.Core
namespace Go.Proofs.YtemgofomhjabpaaGreatDoor.Core
open Go.RowKit Go.Proofs.YtemgofomhjabpaaGreatDoorW.PrintWords
def InC (f : FuncId) (val : Int) (s : ByteArray) (t : List Int) (wd r : Bool) : Prop := ∀ (A : Option Addr) (cc : Nat) (w : World), Kd.C (Kd.int .i64) w A t.length t → t.length ≤ cc → Calls Tryz.prog f #[.int .i64 val, .string s, .slice A t.length cc, .bool wd] w fun e w' => e = .returned (.tuple #[.bool r, .nilIface]) ∧ Below w.heap.size w w'
theorem two_at {w : World} {A : Option Addr} {P : List ByteArray} {n : Nat} (h : Kd.C Kd.string w A n P) (hn : n = P.length) (h2 : 1 < P.length) : ∃ ad, A = some ad ∧ w.cell? ad = some (.string (rdOf ByteArray.empty P 0)) ∧ w.cell? ⟨ad.block, ad.off + 1, none⟩ = some (.string (rdOf ByteArray.empty P 1)) := by
  subst hn
  obtain ⟨ad, rfl, hx0⟩ := Kd.at_string h 0 (by omega) (by omega)
  obtain ⟨ad', ea, hx1⟩ := Kd.at_string h 1 (by omega) (by omega)
  obtain rfl := Option.some.inj ea
  exact ⟨ad, rfl, hx0, hx1⟩
theorem two_int {w : World} {A : Option Addr} {t : List Int} {n : Nat} (h : Kd.C (Kd.int .i64) w A n t) (hn : n = t.length) (h2 : 1 < t.length) : ∃ ad, A = some ad ∧ w.cell? ad = some (.int .i64 (rd t 0)) ∧ w.cell? ⟨ad.block, ad.off + 1, none⟩ = some (.int .i64 (rd t 1)) := by
  subst hn
  obtain ⟨ad, rfl, hx0⟩ := Kd.at_int h 0 (by omega) (by omega)
  obtain ⟨ad', ea, hx1⟩ := Kd.at_int h 1 (by omega) (by omega)
  obtain rfl := Option.some.inj ea
  exact ⟨ad, rfl, hx0, hx1⟩
set_option maxRecDepth 100000 in
set_option maxHeartbeats 800000 in
theorem sstep_w (val step : Int) (s : ByteArray) (t : List Int) (wd : Bool) (k : Nat) (P : List ByteArray) (hs : gronx_zzSplit.f k s ⟨#[47]⟩ = some P) (hP : P.length = 2) (ha : strconv_Atoi.f (rdOf ByteArray.empty P 1) = some (step, none)) (s0 : 1 ≤ step) (s1 : step ≤ 1000) (hi : gronx_zzIndex.f k s ⟨#[42, 47]⟩ = some 0) (ht : t.length = 2) (hv0 : rd t 0 ≤ val) (hv1 : val ≤ 100000) (hv2 : 0 ≤ rd t 0) : InC 134 val s t wd (decide ((val - rd t 0) % step = 0)) := by
  intro A cc w hC hcc
  have hs := Aside0.mk hs
  have ha := Aside0.mk ha
  have hi := Aside0.mk hi
  obtain ⟨ab, rfl, u0, u1⟩ := two_int hC rfl (by omega)
  have hm : Int.tmod (val - rd t 0) step = (val - rd t 0) % step := Int.tmod_eq_emod_of_nonneg (by omega)
  have qi0 : (0 < t.length) = True := eq_true (by omega)
  have qi1 : (0 < (t.length : Int)) = True := eq_true (by omega)
  have qp0 : (1 < P.length) = True := eq_true (by omega)
  have qp1 : (1 < (P.length : Int)) = True := eq_true (by omega)
  have n0 : ¬ step ≤ 0 := by omega
  have n1 : step ≠ 0 := by omega
  have hw : wrap64 (val - rd t 0) = val - rd t 0 := by unfold wrap64; omega
  generalize rd t 0 = lo at *
  go_enter Tryz.func134, Tryz.ntmps134
  go_wp2_with (first | (go_at_call 62; refine (gronx_zzSplit.calls k _ _ _ _ hs.out).mono ?_; rintro e w1 ⟨v0, rfl, hR, hb1⟩; obtain ⟨A1, c1, rfl⟩ := Kd.R_slice hR; obtain ⟨ad, rfl, y0, y1⟩ := two_at (Kd.R_reads' hR).2.2 rfl (by omega); have u2 := cell_after hb1 u0) | (go_at_call 136; refine (strconv_Atoi.calls _ _ _ _ ha.out).mono ?_; rintro e w2 ⟨rfl, hb2⟩; have u3 := cell_after hb2 u2; rw [errW_none]) | (go_at_call 50; refine (gronx_zzIndex.calls k _ _ _ _ hi.out).mono ?_; rintro e wz ⟨rfl, ⟨nd, rfl⟩⟩))
  go_ret2
  exact ⟨by first | rfl | simp, below_step (by repeat (first | exact hb1 | apply pw_below_drewN)) hb2 |> fun h => by repeat (first | exact h | apply pw_below_drewN)⟩
set_option maxRecDepth 100000 in
set_option maxHeartbeats 800000 in
theorem rstep_plain (val step a b : Int) (s : ByteArray) (t : List Int) (k : Nat) (P Q : List ByteArray) (i1 i2 : Int) (hs : gronx_zzSplit.f k s ⟨#[47]⟩ = some P) (hP : P.length = 2) (ha : strconv_Atoi.f (rdOf ByteArray.empty P 1) = some (step, none)) (s0 : 1 ≤ step) (hi : gronx_zzIndex.f k s ⟨#[42, 47]⟩ = some i1) (h1 : i1 ≠ 0) (hj : gronx_zzIndex.f k s ⟨#[48, 47]⟩ = some i2) (h2 : i2 ≠ 0) (hs2 : gronx_zzSplit.f k (rdOf ByteArray.empty P 0) ⟨#[45]⟩ = some Q) (hQ : Q.length = 2) (ha0 : strconv_Atoi.f (rdOf ByteArray.empty Q 0) = some (a, none)) (ha1 : strconv_Atoi.f (rdOf ByteArray.empty Q 1) = some (b, none)) (ht : t.length = 2) (hab : a ≤ b) (hlo : rd t 0 ≤ a) (hhi : b ≤ rd t 1) (r : Bool) (hr : gronx_inStepRange.f k val a b step = some r) : InC 134 val s t false r := by
  intro A cc w hC hcc
  have hs := Aside0.mk hs
  have ha := Aside0.mk ha
  have hi := Aside0.mk hi
  have hj := Aside0.mk hj
  have hs2 := Aside0.mk hs2
  have ha0 := Aside0.mk ha0
  have ha1 := Aside0.mk ha1
  have hr := Aside0.mk hr
  obtain ⟨ab, rfl, u0, u1⟩ := two_int hC rfl (by omega)
  have qi0 : (0 < t.length) = True := eq_true (by omega)
  have qi1 : (0 < (t.length : Int)) = True := eq_true (by omega)
  have qi2 : (1 < t.length) = True := eq_true (by omega)
  have qi3 : (1 < (t.length : Int)) = True := eq_true (by omega)
  have qp0 : (1 < P.length) = True := eq_true (by omega)
  have qp1 : (1 < (P.length : Int)) = True := eq_true (by omega)
  have qp2 : (0 < P.length) = True := eq_true (by omega)
  have qp3 : (0 < (P.length : Int)) = True := eq_true (by omega)
  have qq0 : (1 < Q.length) = True := eq_true (by omega)
  have qq1 : (1 < (Q.length : Int)) = True := eq_true (by omega)
  have qq2 : (0 < Q.length) = True := eq_true (by omega)
  have qq3 : (0 < (Q.length : Int)) = True := eq_true (by omega)
  have n0 : ¬ step ≤ 0 := by omega
  have n1 : (i1 == 0) = false := beq_eq_false_iff_ne.mpr h1
  have n2 : (i2 == 0) = false := beq_eq_false_iff_ne.mpr h2
  generalize rd t 0 = lo at *
  generalize rd t 1 = hi' at *
  have n3 : ¬ b < a := by omega
  have n4 : ¬ a < lo := by omega
  have n5 : ¬ hi' < b := by omega
  go_enter Tryz.func134, Tryz.ntmps134
  go_wp2_with (first | (go_at_call 62; refine (gronx_zzSplit.calls k _ _ _ _ hs.out).mono ?_; rintro e w1 ⟨v0, rfl, hR, hb1⟩; obtain ⟨A1, c1, rfl⟩ := Kd.R_slice hR; obtain ⟨ad, rfl, y0, y1⟩ := two_at (Kd.R_reads' hR).2.2 rfl (by omega); have u2 := cell_after hb1 u0; have u3 := cell_after hb1 u1; clear hs) | (go_at_call 136; refine (strconv_Atoi.calls _ _ _ _ ha.out).mono ?_; rintro e w2 ⟨rfl, hb2⟩; have u4 := cell_after hb2 u2; have u5 := cell_after hb2 u3; have y2 := cell_after hb2 y0; rw [errW_none]; clear ha) | (go_at_call 50; refine (gronx_zzIndex.calls k _ _ _ _ hi.out).mono ?_; rintro e wz ⟨rfl, ⟨nd, rfl⟩⟩; clear hi) | (go_at_call 50; refine (gronx_zzIndex.calls k _ _ _ _ hj.out).mono ?_; rintro e wz ⟨rfl, ⟨nd2, rfl⟩⟩; clear hj) | (go_at_call 62; refine (gronx_zzSplit.calls k _ _ _ _ hs2.out).mono ?_; rintro e w3 ⟨v2, rfl, hR2, hb3⟩; obtain ⟨A2, c2, rfl⟩ := Kd.R_slice hR2; obtain ⟨ae, rfl, z0, z1⟩ := two_at (Kd.R_reads' hR2).2.2 rfl (by omega); have hb3' : Below w2.heap.size w2 w3 := below_step (by repeat (first | exact Below.refl _ _ | apply pw_below_drewN)) hb3; have u6 := cell_after hb3' u4; have u7 := cell_after hb3' u5; clear hs2) | (go_at_call 136; refine (strconv_Atoi.calls _ _ _ _ ha0.out).mono ?_; rintro e w4 ⟨rfl, hb4⟩; have u8 := cell_after hb4 u6; have u9 := cell_after hb4 u7; have z2 := cell_after hb4 z1; rw [errW_none]; clear ha0) | (go_at_call 136; refine (strconv_Atoi.calls _ _ _ _ ha1.out).mono ?_; rintro e w5 ⟨rfl, hb5⟩; have v8 := cell_after hb5 u8; have v9 := cell_after hb5 u9; rw [errW_none]; clear ha1) | (go_at_call 147; refine (gronx_inStepRange.calls k _ _ _ _ _ _ hr.out).mono ?_; rintro e wr ⟨rfl, ⟨nd3, rfl⟩⟩; clear hr))
  go_ret2
  exact ⟨by first | rfl | simp, by repeat (first | exact below_step (below_step (below_step (below_step hb1 hb2) hb3') hb4) hb5 | apply pw_below_drewN)⟩
set_option maxRecDepth 100000 in
set_option maxHeartbeats 800000 in
theorem rstep_wd (val step a b : Int) (s : ByteArray) (t : List Int) (k : Nat) (P Q : List ByteArray) (i1 i2 : Int) (hs : gronx_zzSplit.f k s ⟨#[47]⟩ = some P) (hP : P.length = 2) (ha : strconv_Atoi.f (rdOf ByteArray.empty P 1) = some (step, none)) (s0 : 1 ≤ step) (hi : gronx_zzIndex.f k s ⟨#[42, 47]⟩ = some i1) (h1 : i1 ≠ 0) (hj : gronx_zzIndex.f k s ⟨#[48, 47]⟩ = some i2) (h2 : i2 ≠ 0) (hs2 : gronx_zzSplit.f k (rdOf ByteArray.empty P 0) ⟨#[45]⟩ = some Q) (hQ : Q.length = 2) (ha0 : strconv_Atoi.f (rdOf ByteArray.empty Q 0) = some (a, none)) (ha1 : strconv_Atoi.f (rdOf ByteArray.empty Q 1) = some (b, none)) (ht : t.length = 2) (hab : a ≤ b) (hlo : rd t 0 ≤ a) (hhi : b ≤ rd t 1) (a6 : a ≤ 6) (hv : val ≠ 0) (r : Bool) (hr : gronx_inStepRange.f k val a b step = some r) : InC 134 val s t true r := by
  intro A cc w hC hcc
  have hs := Aside0.mk hs
  have ha := Aside0.mk ha
  have hi := Aside0.mk hi
  have hj := Aside0.mk hj
  have hs2 := Aside0.mk hs2
  have ha0 := Aside0.mk ha0
  have ha1 := Aside0.mk ha1
  have hr := Aside0.mk hr
  obtain ⟨ab, rfl, u0, u1⟩ := two_int hC rfl (by omega)
  have qi0 : (0 < t.length) = True := eq_true (by omega)
  have qi1 : (0 < (t.length : Int)) = True := eq_true (by omega)
  have qi2 : (1 < t.length) = True := eq_true (by omega)
  have qi3 : (1 < (t.length : Int)) = True := eq_true (by omega)
  have qp0 : (1 < P.length) = True := eq_true (by omega)
  have qp1 : (1 < (P.length : Int)) = True := eq_true (by omega)
  have qp2 : (0 < P.length) = True := eq_true (by omega)
  have qp3 : (0 < (P.length : Int)) = True := eq_true (by omega)
  have qq0 : (1 < Q.length) = True := eq_true (by omega)
  have qq1 : (1 < (Q.length : Int)) = True := eq_true (by omega)
  have qq2 : (0 < Q.length) = True := eq_true (by omega)
  have qq3 : (0 < (Q.length : Int)) = True := eq_true (by omega)
  have n0 : ¬ step ≤ 0 := by omega
  have n1 : (i1 == 0) = false := beq_eq_false_iff_ne.mpr h1
  have n2 : (i2 == 0) = false := beq_eq_false_iff_ne.mpr h2
  generalize rd t 0 = lo at *
  generalize rd t 1 = hi' at *
  have n3 : ¬ b < a := by omega
  have n4 : ¬ a < lo := by omega
  have n5 : ¬ hi' < b := by omega
  have n6 : (a == 7) = false := beq_eq_false_iff_ne.mpr (by omega)
  have n7 : (val == 0) = false := beq_eq_false_iff_ne.mpr hv
  go_enter Tryz.func134, Tryz.ntmps134
  go_wp2_with (first | (go_at_call 62; refine (gronx_zzSplit.calls k _ _ _ _ hs.out).mono ?_; rintro e w1 ⟨v0, rfl, hR, hb1⟩; obtain ⟨A1, c1, rfl⟩ := Kd.R_slice hR; obtain ⟨ad, rfl, y0, y1⟩ := two_at (Kd.R_reads' hR).2.2 rfl (by omega); have u2 := cell_after hb1 u0; have u3 := cell_after hb1 u1; clear hs) | (go_at_call 136; refine (strconv_Atoi.calls _ _ _ _ ha.out).mono ?_; rintro e w2 ⟨rfl, hb2⟩; have u4 := cell_after hb2 u2; have u5 := cell_after hb2 u3; have y2 := cell_after hb2 y0; rw [errW_none]; clear ha) | (go_at_call 50; refine (gronx_zzIndex.calls k _ _ _ _ hi.out).mono ?_; rintro e wz ⟨rfl, ⟨nd, rfl⟩⟩; clear hi) | (go_at_call 50; refine (gronx_zzIndex.calls k _ _ _ _ hj.out).mono ?_; rintro e wz ⟨rfl, ⟨nd2, rfl⟩⟩; clear hj) | (go_at_call 62; refine (gronx_zzSplit.calls k _ _ _ _ hs2.out).mono ?_; rintro e w3 ⟨v2, rfl, hR2, hb3⟩; obtain ⟨A2, c2, rfl⟩ := Kd.R_slice hR2; obtain ⟨ae, rfl, z0, z1⟩ := two_at (Kd.R_reads' hR2).2.2 rfl (by omega); have hb3' : Below w2.heap.size w2 w3 := below_step (by repeat (first | exact Below.refl _ _ | apply pw_below_drewN)) hb3; have u6 := cell_after hb3' u4; have u7 := cell_after hb3' u5; clear hs2) | (go_at_call 136; refine (strconv_Atoi.calls _ _ _ _ ha0.out).mono ?_; rintro e w4 ⟨rfl, hb4⟩; have u8 := cell_after hb4 u6; have u9 := cell_after hb4 u7; have z2 := cell_after hb4 z1; rw [errW_none]; clear ha0) | (go_at_call 136; refine (strconv_Atoi.calls _ _ _ _ ha1.out).mono ?_; rintro e w5 ⟨rfl, hb5⟩; have v8 := cell_after hb5 u8; have v9 := cell_after hb5 u9; rw [errW_none]; clear ha1) | (go_at_call 147; refine (gronx_inStepRange.calls k _ _ _ _ _ _ hr.out).mono ?_; rintro e wr ⟨rfl, ⟨nd3, rfl⟩⟩; clear hr))
  go_ret2
  exact ⟨by first | rfl | simp, by repeat (first | exact below_step (below_step (below_step (below_step hb1 hb2) hb3') hb4) hb5 | apply pw_below_drewN)⟩
set_option maxRecDepth 100000 in
set_option maxHeartbeats 800000 in
theorem rstep_zero_yes (step a b : Int) (s : ByteArray) (t : List Int) (k : Nat) (P Q : List ByteArray) (i1 i2 : Int) (hs : gronx_zzSplit.f k s ⟨#[47]⟩ = some P) (hP : P.length = 2) (ha : strconv_Atoi.f (rdOf ByteArray.empty P 1) = some (step, none)) (s0 : 1 ≤ step) (hi : gronx_zzIndex.f k s ⟨#[42, 47]⟩ = some i1) (h1 : i1 ≠ 0) (hj : gronx_zzIndex.f k s ⟨#[48, 47]⟩ = some i2) (h2 : i2 ≠ 0) (hs2 : gronx_zzSplit.f k (rdOf ByteArray.empty P 0) ⟨#[45]⟩ = some Q) (hQ : Q.length = 2) (ha0 : strconv_Atoi.f (rdOf ByteArray.empty Q 0) = some (a, none)) (ha1 : strconv_Atoi.f (rdOf ByteArray.empty Q 1) = some (b, none)) (ht : t.length = 2) (hab : a ≤ b) (hlo : rd t 0 ≤ a) (hhi : b ≤ rd t 1) (a6 : a ≤ 6) (hr : gronx_inStepRange.f k 0 a b step = some true) : InC 134 0 s t true true := by
  intro A cc w hC hcc
  have hs := Aside0.mk hs
  have ha := Aside0.mk ha
  have hi := Aside0.mk hi
  have hj := Aside0.mk hj
  have hs2 := Aside0.mk hs2
  have ha0 := Aside0.mk ha0
  have ha1 := Aside0.mk ha1
  have hr := Aside0.mk hr
  obtain ⟨ab, rfl, u0, u1⟩ := two_int hC rfl (by omega)
  have qi0 : (0 < t.length) = True := eq_true (by omega)
  have qi1 : (0 < (t.length : Int)) = True := eq_true (by omega)
  have qi2 : (1 < t.length) = True := eq_true (by omega)
  have qi3 : (1 < (t.length : Int)) = True := eq_true (by omega)
  have qp0 : (1 < P.length) = True := eq_true (by omega)
  have qp1 : (1 < (P.length : Int)) = True := eq_true (by omega)
  have qp2 : (0 < P.length) = True := eq_true (by omega)
  have qp3 : (0 < (P.length : Int)) = True := eq_true (by omega)
  have qq0 : (1 < Q.length) = True := eq_true (by omega)
  have qq1 : (1 < (Q.length : Int)) = True := eq_true (by omega)
  have qq2 : (0 < Q.length) = True := eq_true (by omega)
  have qq3 : (0 < (Q.length : Int)) = True := eq_true (by omega)
  have n0 : ¬ step ≤ 0 := by omega
  have n1 : (i1 == 0) = false := beq_eq_false_iff_ne.mpr h1
  have n2 : (i2 == 0) = false := beq_eq_false_iff_ne.mpr h2
  generalize rd t 0 = lo at *
  generalize rd t 1 = hi' at *
  have n3 : ¬ b < a := by omega
  have n4 : ¬ a < lo := by omega
  have n5 : ¬ hi' < b := by omega
  have n6 : (a == 7) = false := beq_eq_false_iff_ne.mpr (by omega)
  go_enter Tryz.func134, Tryz.ntmps134
  go_wp2_with (first | (go_at_call 62; refine (gronx_zzSplit.calls k _ _ _ _ hs.out).mono ?_; rintro e w1 ⟨v0, rfl, hR, hb1⟩; obtain ⟨A1, c1, rfl⟩ := Kd.R_slice hR; obtain ⟨ad, rfl, y0, y1⟩ := two_at (Kd.R_reads' hR).2.2 rfl (by omega); have u2 := cell_after hb1 u0; have u3 := cell_after hb1 u1; clear hs) | (go_at_call 136; refine (strconv_Atoi.calls _ _ _ _ ha.out).mono ?_; rintro e w2 ⟨rfl, hb2⟩; have u4 := cell_after hb2 u2; have u5 := cell_after hb2 u3; have y2 := cell_after hb2 y0; rw [errW_none]; clear ha) | (go_at_call 50; refine (gronx_zzIndex.calls k _ _ _ _ hi.out).mono ?_; rintro e wz ⟨rfl, ⟨nd, rfl⟩⟩; clear hi) | (go_at_call 50; refine (gronx_zzIndex.calls k _ _ _ _ hj.out).mono ?_; rintro e wz ⟨rfl, ⟨nd2, rfl⟩⟩; clear hj) | (go_at_call 62; refine (gronx_zzSplit.calls k _ _ _ _ hs2.out).mono ?_; rintro e w3 ⟨v2, rfl, hR2, hb3⟩; obtain ⟨A2, c2, rfl⟩ := Kd.R_slice hR2; obtain ⟨ae, rfl, z0, z1⟩ := two_at (Kd.R_reads' hR2).2.2 rfl (by omega); have hb3' : Below w2.heap.size w2 w3 := below_step (by repeat (first | exact Below.refl _ _ | apply pw_below_drewN)) hb3; have u6 := cell_after hb3' u4; have u7 := cell_after hb3' u5; clear hs2) | (go_at_call 136; refine (strconv_Atoi.calls _ _ _ _ ha0.out).mono ?_; rintro e w4 ⟨rfl, hb4⟩; have u8 := cell_after hb4 u6; have u9 := cell_after hb4 u7; have z2 := cell_after hb4 z1; rw [errW_none]; clear ha0) | (go_at_call 136; refine (strconv_Atoi.calls _ _ _ _ ha1.out).mono ?_; rintro e w5 ⟨rfl, hb5⟩; have v8 := cell_after hb5 u8; have v9 := cell_after hb5 u9; rw [errW_none]; clear ha1) | (go_at_call 147; refine (gronx_inStepRange.calls k _ _ _ _ _ _ hr.out).mono ?_; rintro e wr ⟨rfl, ⟨nd3, rfl⟩⟩; clear hr))
  go_ret2
  exact ⟨by first | rfl | simp, by repeat (first | exact below_step (below_step (below_step (below_step hb1 hb2) hb3') hb4) hb5 | apply pw_below_drewN)⟩
set_option maxRecDepth 100000 in
set_option maxHeartbeats 800000 in
theorem rstep_zero_no (step a b : Int) (s : ByteArray) (t : List Int) (k : Nat) (P Q : List ByteArray) (i1 i2 : Int) (hs : gronx_zzSplit.f k s ⟨#[47]⟩ = some P) (hP : P.length = 2) (ha : strconv_Atoi.f (rdOf ByteArray.empty P 1) = some (step, none)) (s0 : 1 ≤ step) (hi : gronx_zzIndex.f k s ⟨#[42, 47]⟩ = some i1) (h1 : i1 ≠ 0) (hj : gronx_zzIndex.f k s ⟨#[48, 47]⟩ = some i2) (h2 : i2 ≠ 0) (hs2 : gronx_zzSplit.f k (rdOf ByteArray.empty P 0) ⟨#[45]⟩ = some Q) (hQ : Q.length = 2) (ha0 : strconv_Atoi.f (rdOf ByteArray.empty Q 0) = some (a, none)) (ha1 : strconv_Atoi.f (rdOf ByteArray.empty Q 1) = some (b, none)) (ht : t.length = 2) (hab : a ≤ b) (hlo : rd t 0 ≤ a) (hhi : b ≤ rd t 1) (a6 : a ≤ 6) (r : Bool) (hr : gronx_inStepRange.f k 0 a b step = some false) (hr7 : gronx_inStepRange.f k 7 a b step = some r) : InC 134 0 s t true r := by
  intro A cc w hC hcc
  have hs := Aside0.mk hs
  have ha := Aside0.mk ha
  have hi := Aside0.mk hi
  have hj := Aside0.mk hj
  have hs2 := Aside0.mk hs2
  have ha0 := Aside0.mk ha0
  have ha1 := Aside0.mk ha1
  have hr := Aside0.mk hr
  have hr7 := Aside0.mk hr7
  obtain ⟨ab, rfl, u0, u1⟩ := two_int hC rfl (by omega)
  have qi0 : (0 < t.length) = True := eq_true (by omega)
  have qi1 : (0 < (t.length : Int)) = True := eq_true (by omega)
  have qi2 : (1 < t.length) = True := eq_true (by omega)
  have qi3 : (1 < (t.length : Int)) = True := eq_true (by omega)
  have qp0 : (1 < P.length) = True := eq_true (by omega)
  have qp1 : (1 < (P.length : Int)) = True := eq_true (by omega)
  have qp2 : (0 < P.length) = True := eq_true (by omega)
  have qp3 : (0 < (P.length : Int)) = True := eq_true (by omega)
  have qq0 : (1 < Q.length) = True := eq_true (by omega)
  have qq1 : (1 < (Q.length : Int)) = True := eq_true (by omega)
  have qq2 : (0 < Q.length) = True := eq_true (by omega)
  have qq3 : (0 < (Q.length : Int)) = True := eq_true (by omega)
  have n0 : ¬ step ≤ 0 := by omega
  have n1 : (i1 == 0) = false := beq_eq_false_iff_ne.mpr h1
  have n2 : (i2 == 0) = false := beq_eq_false_iff_ne.mpr h2
  generalize rd t 0 = lo at *
  generalize rd t 1 = hi' at *
  have n3 : ¬ b < a := by omega
  have n4 : ¬ a < lo := by omega
  have n5 : ¬ hi' < b := by omega
  have n6 : (a == 7) = false := beq_eq_false_iff_ne.mpr (by omega)
  go_enter Tryz.func134, Tryz.ntmps134
  go_wp2_with (first | (go_at_call 62; refine (gronx_zzSplit.calls k _ _ _ _ hs.out).mono ?_; rintro e w1 ⟨v0, rfl, hR, hb1⟩; obtain ⟨A1, c1, rfl⟩ := Kd.R_slice hR; obtain ⟨ad, rfl, y0, y1⟩ := two_at (Kd.R_reads' hR).2.2 rfl (by omega); have u2 := cell_after hb1 u0; have u3 := cell_after hb1 u1; clear hs) | (go_at_call 136; refine (strconv_Atoi.calls _ _ _ _ ha.out).mono ?_; rintro e w2 ⟨rfl, hb2⟩; have u4 := cell_after hb2 u2; have u5 := cell_after hb2 u3; have y2 := cell_after hb2 y0; rw [errW_none]; clear ha) | (go_at_call 50; refine (gronx_zzIndex.calls k _ _ _ _ hi.out).mono ?_; rintro e wz ⟨rfl, ⟨nd, rfl⟩⟩; clear hi) | (go_at_call 50; refine (gronx_zzIndex.calls k _ _ _ _ hj.out).mono ?_; rintro e wz ⟨rfl, ⟨nd2, rfl⟩⟩; clear hj) | (go_at_call 62; refine (gronx_zzSplit.calls k _ _ _ _ hs2.out).mono ?_; rintro e w3 ⟨v2, rfl, hR2, hb3⟩; obtain ⟨A2, c2, rfl⟩ := Kd.R_slice hR2; obtain ⟨ae, rfl, z0, z1⟩ := two_at (Kd.R_reads' hR2).2.2 rfl (by omega); have hb3' : Below w2.heap.size w2 w3 := below_step (by repeat (first | exact Below.refl _ _ | apply pw_below_drewN)) hb3; have u6 := cell_after hb3' u4; have u7 := cell_after hb3' u5; clear hs2) | (go_at_call 136; refine (strconv_Atoi.calls _ _ _ _ ha0.out).mono ?_; rintro e w4 ⟨rfl, hb4⟩; have u8 := cell_after hb4 u6; have u9 := cell_after hb4 u7; have z2 := cell_after hb4 z1; rw [errW_none]; clear ha0) | (go_at_call 136; refine (strconv_Atoi.calls _ _ _ _ ha1.out).mono ?_; rintro e w5 ⟨rfl, hb5⟩; have v8 := cell_after hb5 u8; have v9 := cell_after hb5 u9; rw [errW_none]; clear ha1) | (go_at_call 147; refine (gronx_inStepRange.calls k _ _ _ _ _ _ hr.out).mono ?_; rintro e wr ⟨rfl, ⟨nd3, rfl⟩⟩; clear hr) | (go_at_call 147; refine (gronx_inStepRange.calls k _ _ _ _ _ _ hr7.out).mono ?_; rintro e wr ⟨rfl, ⟨nd4, rfl⟩⟩; clear hr7))
  go_ret2
  exact ⟨by first | rfl | simp, by repeat (first | exact below_step (below_step (below_step (below_step hb1 hb2) hb3') hb4) hb5 | apply pw_below_drewN)⟩
end Go.Proofs.YtemgofomhjabpaaGreatDoor.Core
namespace Go.Proofs.YtemgofomhjabpaaGreatDoor.Core
open Go.RowKit Go.Proofs.YtemgofomhjabpaaGreatDoorW.PrintWords
structure Moment' (x y mo d h mi s : Int) : Prop where
  date : DateOk y mo d
  clock : ClockOk h mi s
  ext : x = extOf y mo d h mi s
def posV (y mo d h mi s : Int) (pos : Int) : Int := if pos = 0 then s else if pos = 1 then mi else if pos = 2 then h else if pos = 3 then d else if pos = 4 then mo else if pos = 5 then wdI y mo d else y
section
variable {x y mo d h mi s : Int} (M : Moment' x y mo d h mi s)
include M
theorem Moment'.r0 : 62700000000 ≤ x := M.ext ▸ (ext_range M.date M.clock).1
theorem Moment'.r1 : x ≤ 66100000000 := M.ext ▸ (ext_range M.date M.clock).2
theorem Moment'.abs : x + 9223371966606163200 = absD y mo d * 86400 + (h * 3600 + mi * 60 + s) := by rw [M.ext]; unfold extOf; omega
theorem Moment'.days : gotime_absSeconds_days.f (x + 9223371966606163200) = some (absD y mo d) := M.ext ▸ days_ext M.date M.clock
theorem sec_m (w : World) : Calls Tryz.prog 128 #[.agg #[.int .u64 0, .int .i64 x, .pointer none]] w fun e w' => e = .returned (.int .i64 s) ∧ Below w.heap.size w w' := by
  have e : (x + 9223371966606163200) % 60 = s := by rw [M.abs]; have := M.clock.s0; have := M.clock.s1; omega
  have := second_w x w M.r0 M.r1
  rwa [e] at this
theorem min_m (w : World) : Calls Tryz.prog 129 #[.agg #[.int .u64 0, .int .i64 x, .pointer none]] w fun e w' => e = .returned (.int .i64 mi) ∧ Below w.heap.size w w' := by
  have e : (x + 9223371966606163200) % 3600 / 60 = mi := by rw [M.abs]; have := M.clock.s0; have := M.clock.s1; have := M.clock.m0; have := M.clock.m1; omega
  have := minute_w x w M.r0 M.r1
  rwa [e] at this
theorem hour_m (w : World) : Calls Tryz.prog 130 #[.agg #[.int .u64 0, .int .i64 x, .pointer none]] w fun e w' => e = .returned (.int .i64 h) ∧ Below w.heap.size w w' := by
  have e : (x + 9223371966606163200) % 86400 / 3600 = h := by rw [M.abs]; have := M.clock.s0; have := M.clock.s1; have := M.clock.m0; have := M.clock.m1; have := M.clock.h0; have := M.clock.h1; omega
  have := hour_w x w M.r0 M.r1
  rwa [e] at this
theorem day_m (w : World) : Calls Tryz.prog 109 #[.agg #[.int .u64 0, .int .i64 x, .pointer none]] w fun e w' => e = .returned (.int .i64 d) ∧ Below w.heap.size w w' :=
  day_w x _ _ _ _ _ d w M.r0 M.r1 ⟨M.days⟩ ⟨split_date M.date⟩ ⟨(aydSplit M.date).1⟩
theorem month_m (w : World) : Calls Tryz.prog 119 #[.agg #[.int .u64 0, .int .i64 x, .pointer none]] w fun e w' => e = .returned (.int .i64 mo) ∧ Below w.heap.size w w' :=
  month_w x _ _ _ _ _ _ mo d w M.r0 M.r1 ⟨M.days⟩ ⟨split_date M.date⟩ ⟨(aydSplit M.date).1⟩ ⟨(aydSplit M.date).2.1⟩ ⟨(aydSplit M.date).2.2⟩
theorem year_m (w : World) : Calls Tryz.prog 118 #[.agg #[.int .u64 0, .int .i64 x, .pointer none]] w fun e w' => e = .returned (.int .i64 y) ∧ Below w.heap.size w w' :=
  year_w x _ _ _ _ _ y w M.r0 M.r1 ⟨M.days⟩ ⟨split_date M.date⟩ ⟨(aydSplit M.date).2.1⟩ ⟨centuryYear M.date⟩
theorem weekday_m (w : World) : Calls Tryz.prog 131 #[.agg #[.int .u64 0, .int .i64 x, .pointer none]] w fun e w' => e = .returned (.int .i64 (wdI y mo d)) ∧ Below w.heap.size w w' :=
  weekday_w x _ _ w M.r0 M.r1 ⟨M.days⟩ ⟨weekday_date M.date⟩
end
set_option maxRecDepth 100000 in
theorem val_w {x y mo d h mi s : Int} (M : Moment' x y mo d h mi s) (pos : Nat) (hp : pos < 7) (w : World) :
    Calls Tryz.prog 114 #[.agg #[.int .u64 0, .int .i64 x, .pointer none], .int .i64 (pos : Int)] w fun e w' => e = .returned (.int .i64 (posV y mo d h mi s pos)) ∧ Below w.heap.size w w' := by
  have M := Aside0.mk M
  match pos, hp with
  | 0, _ =>
    go_enter Tryz.func114, Tryz.ntmps114
    go_wp2_with (go_at_call 128; refine (sec_m M.out _).mono ?_; rintro e w1 ⟨rfl, hb⟩)
    go_ret
    exact ⟨rfl, below_then (below_alloc (Below.refl _ _) _) (by simp) hb⟩
  | 1, _ =>
    go_enter Tryz.func114, Tryz.ntmps114
    go_wp2_with (go_at_call 129; refine (min_m M.out _).mono ?_; rintro e w1 ⟨rfl, hb⟩)
    go_ret
    exact ⟨rfl, below_then (below_alloc (Below.refl _ _) _) (by simp) hb⟩
  | 2, _ =>
    go_enter Tryz.func114, Tryz.ntmps114
    go_wp2_with (go_at_call 130; refine (hour_m M.out _).mono ?_; rintro e w1 ⟨rfl, hb⟩)
    go_ret
    exact ⟨rfl, below_then (below_alloc (Below.refl _ _) _) (by simp) hb⟩
  | 3, _ =>
    go_enter Tryz.func114, Tryz.ntmps114
    go_wp2_with (go_at_call 109; refine (day_m M.out _).mono ?_; rintro e w1 ⟨rfl, hb⟩)
    go_ret
    exact ⟨rfl, below_then (below_alloc (Below.refl _ _) _) (by simp) hb⟩
  | 4, _ =>
    go_enter Tryz.func114, Tryz.ntmps114
    go_wp2_with (go_at_call 119; refine (month_m M.out _).mono ?_; rintro e w1 ⟨rfl, hb⟩)
    go_ret
    exact ⟨rfl, below_then (below_alloc (Below.refl _ _) _) (by simp) hb⟩
  | 5, _ =>
    go_enter Tryz.func114, Tryz.ntmps114
    go_wp2_with (go_at_call 131; refine (weekday_m M.out _).mono ?_; rintro e w1 ⟨rfl, hb⟩)
    go_ret
    exact ⟨rfl, below_then (below_alloc (Below.refl _ _) _) (by simp) hb⟩
  | 6, _ =>
    go_enter Tryz.func114, Tryz.ntmps114
    go_wp2_with (go_at_call 118; refine (year_m M.out _).mono ?_; rintro e w1 ⟨rfl, hb⟩)
    go_ret
    exact ⟨rfl, below_then (below_alloc (Below.refl _ _) _) (by simp) hb⟩
theorem getRef_w (c : Nat) (x : Int) (w : World) (h0 : w.cell? ⟨c, 0, none⟩ = some (.int .u64 0)) (h1 : w.cell? ⟨c, 1, none⟩ = some (.int .i64 x)) (h2 : w.cell? ⟨c, 2, none⟩ = some (.pointer none)) :
    Calls Tryz.prog 112 #[.pointer (some ⟨c, 0, none⟩)] w fun e w' => e = .returned (.agg #[.int .u64 0, .int .i64 x, .pointer none]) ∧ Below w.heap.size w w' := by
  have hc : c < w.heap.size := World.block_lt_of_cell? w ⟨c, 0, none⟩ h0
  have hne : c ≠ w.heap.size := Nat.ne_of_lt hc
  have hne' : w.heap.size ≠ c := Nat.ne_of_gt hc
  go_enter Tryz.func112, Tryz.ntmps112
  go_wp2
  exact bodyPost_ret (v := .agg #[.int .u64 0, .int .i64 x, .pointer none]) (by simp [results, Tryz.results112, go_sem]) rfl ⟨rfl, (Below.refl _ _).alloc (Nat.le_refl _) _⟩
def SI (n : Nat) (y mo d h mi s : Int) (w' : World) : Prop := n + 1 < w'.heap.size ∧ w'.cell? ⟨n, 0, none⟩ = some (.int .i64 y) ∧ w'.cell? ⟨n, 1, none⟩ = some (.int .i64 mo) ∧ w'.cell? ⟨n, 2, none⟩ = some (.int .i64 d) ∧ w'.cell? ⟨n, 3, none⟩ = some (.int .i64 h) ∧ w'.cell? ⟨n, 4, none⟩ = some (.int .i64 mi) ∧ w'.cell? ⟨n, 5, none⟩ = some (.int .i64 s) ∧ w'.frozen? ⟨n + 1, 0, none⟩ = false ∧ w'.frozen? ⟨n + 1, 1, none⟩ = false ∧ w'.frozen? ⟨n + 1, 2, none⟩ = false ∧ (∃ v, w'.cell? ⟨n + 1, 0, none⟩ = some v) ∧ (∃ v, w'.cell? ⟨n + 1, 1, none⟩ = some v) ∧ (∃ v, w'.cell? ⟨n + 1, 2, none⟩ = some v)
theorem SI.below {n : Nat} {y mo d h mi s : Int} {a b : World} (hb : Below a.heap.size a b) (hS : SI n y mo d h mi s a) : SI n y mo d h mi s b := by
  obtain ⟨h0, h1, h2, h3, h4, h5, h6, h7, h8, h9, ⟨v0, k0⟩, ⟨v1, k1⟩, ⟨v2, k2⟩⟩ := hS
  exact ⟨Nat.lt_of_lt_of_le h0 hb.size, cell_after hb h1, cell_after hb h2, cell_after hb h3, cell_after hb h4, cell_after hb h5, cell_after hb h6, (hb.frozen h0).trans h7, (hb.frozen h0).trans h8, (hb.frozen h0).trans h9, ⟨v0, cell_after hb k0⟩, ⟨v1, cell_after hb k1⟩, ⟨v2, cell_after hb k2⟩⟩
theorem SI.cells {n : Nat} {y mo d h mi s : Int} {a : World} (hS : SI n y mo d h mi s a) : ∃ v0 v1 v2, a.cell? ⟨n + 1, 0, none⟩ = some v0 ∧ a.cell? ⟨n + 1, 1, none⟩ = some v1 ∧ a.cell? ⟨n + 1, 2, none⟩ = some v2 ∧ a.frozen? ⟨n + 1, 0, none⟩ = false ∧ a.frozen? ⟨n + 1, 1, none⟩ = false ∧ a.frozen? ⟨n + 1, 2, none⟩ = false := by
  obtain ⟨h0, h1, h2, h3, h4, h5, h6, h7, h8, h9, ⟨v0, k0⟩, ⟨v1, k1⟩, ⟨v2, k2⟩⟩ := hS
  exact ⟨v0, v1, v2, k0, k1, k2, h7, h8, h9⟩
theorem frozen_set {w : World} {a b : Addr} {v : Value} : (w.setCell a v).frozen? b = w.frozen? b := by simp
theorem set_some {w : World} {a b : Addr} {v u : Value} (h : w.cell? b = some u) : ∃ u', (w.setCell a v).cell? b = some u' := cell?_setCell_some h
theorem SI.set {n j : Nat} {v : Value} {y mo d h mi s : Int} {a : World} (hS : SI n y mo d h mi s a) : SI n y mo d h mi s (a.setCell ⟨n + 1, j, none⟩ v) := by
  obtain ⟨h0, h1, h2, h3, h4, h5, h6, h7, h8, h9, ⟨v0, k0⟩, ⟨v1, k1⟩, ⟨v2, k2⟩⟩ := hS
  exact ⟨by simpa using h0, (set_other (by simp)).trans h1, (set_other (by simp)).trans h2, (set_other (by simp)).trans h3, (set_other (by simp)).trans h4, (set_other (by simp)).trans h5, (set_other (by simp)).trans h6, frozen_set.trans h7, frozen_set.trans h8, frozen_set.trans h9, set_some k0, set_some k1, set_some k2⟩
theorem set3 {w4 : World} {g : Nat} {x0 x1 x2 a b c : Value} (h0 : w4.cell? ⟨g, 0, none⟩ = some x0) (h1 : w4.cell? ⟨g, 1, none⟩ = some x1) (h2 : w4.cell? ⟨g, 2, none⟩ = some x2) :
    (((w4.setCell ⟨g, 0, none⟩ a).setCell ⟨g, 1, none⟩ b).setCell ⟨g, 2, none⟩ c).cell? ⟨g, 0, none⟩ = some a ∧
    (((w4.setCell ⟨g, 0, none⟩ a).setCell ⟨g, 1, none⟩ b).setCell ⟨g, 2, none⟩ c).cell? ⟨g, 1, none⟩ = some b ∧
    (((w4.setCell ⟨g, 0, none⟩ a).setCell ⟨g, 1, none⟩ b).setCell ⟨g, 2, none⟩ c).cell? ⟨g, 2, none⟩ = some c := by
  have k0 : (w4.setCell ⟨g, 0, none⟩ a).cell? ⟨g, 0, none⟩ = some a := set_same h0
  have k1 : ((w4.setCell ⟨g, 0, none⟩ a).setCell ⟨g, 1, none⟩ b).cell? ⟨g, 0, none⟩ = some a := (set_other (by simp)).trans k0
  have k2 : ((w4.setCell ⟨g, 0, none⟩ a).setCell ⟨g, 1, none⟩ b).cell? ⟨g, 1, none⟩ = some b := set_same ((set_other (by simp)).trans h1)
  exact ⟨(set_other (by simp)).trans k1, (set_other (by simp)).trans k2, set_same ((set_other (by simp)).trans ((set_other (by simp)).trans h2))⟩
theorem utc_b (w : World) : Calls Tryz.prog 44 #[] w fun e w' => ∃ b, e = .returned (.pointer (some ⟨b, 0, none⟩)) ∧ w'.cell? ⟨b, 0, none⟩ = some (.bool true) ∧ w'.cell? ⟨b, 2, none⟩ = some (.slice none 0 0) ∧ Below w.heap.size w w' := by
  refine (utc_any w).mono ?_
  rintro e w' ⟨rfl, rfl⟩
  exact ⟨_, rfl, by simp [utcCells, go_sem], by simp [utcCells, go_sem], (Below.refl _ _).alloc (Nat.le_refl _) _⟩
theorem timeOf_w {y mo d h mi s : Int} (hd : DateOk y mo d) (hc : ClockOk h mi s) (w : World) :
    Calls Tryz.prog 33 #[.agg #[.int .i64 y, .int .i64 mo, .int .i64 d, .int .i64 h, .int .i64 mi, .int .i64 s]] w fun e w' => e = .returned (.agg #[.int .u64 0, .int .i64 (extOf y mo d h mi s), .pointer none]) ∧ Below w.heap.size w w' := by
  have hD : Aside0 (gotime_dateToAbsDays.f y mo d = some (absD y mo d)) := ⟨dateToAbs_eq y mo d hd.y0 hd.y1 hd.m0 hd.m1 hd.d0 (by have := hd.d1; have := (daysI_cases y mo hd.m0 hd.m1).1; omega)⟩
  have hr := Aside0.mk (absD_range hd)
  have hd := Aside0.mk hd
  have hc := Aside0.mk hc
  go_enter Tryz.func33, Tryz.ntmps33
  go_wp2
  go_region_held (fun w' => w.heap.size + 1 < w'.heap.size ∧ w'.cell? ⟨w.heap.size, 0, none⟩ = some (.int .i64 y) ∧ w'.cell? ⟨w.heap.size, 1, none⟩ = some (.int .i64 mo) ∧ w'.cell? ⟨w.heap.size, 2, none⟩ = some (.int .i64 d) ∧ w'.cell? ⟨w.heap.size, 3, none⟩ = some (.int .i64 h) ∧ w'.cell? ⟨w.heap.size, 4, none⟩ = some (.int .i64 mi) ∧ w'.cell? ⟨w.heap.size, 5, none⟩ = some (.int .i64 s) ∧ w'.frozen? ⟨w.heap.size + 1, 0, none⟩ = false ∧ w'.frozen? ⟨w.heap.size + 1, 1, none⟩ = false ∧ w'.frozen? ⟨w.heap.size + 1, 2, none⟩ = false ∧ (∃ v, w'.cell? ⟨w.heap.size + 1, 0, none⟩ = some v) ∧ (∃ v, w'.cell? ⟨w.heap.size + 1, 1, none⟩ = some v) ∧ (∃ v, w'.cell? ⟨w.heap.size + 1, 2, none⟩ = some v))
    (first | exact SI.below hb (by assumption) | exact SI.below hb1 (by assumption) | exact SI.set (SI.set (SI.set (by assumption))) | go_keep | (trace_state; fail)) (first | (go_at_call 44; refine (utc_b _).mono ?_; rintro e w1 ⟨b, rfl, hu0, hu2, hb1⟩) | (go_at_call 43; refine (date_w y mo d h mi s (absD y mo d) _ _ hd.out.m0 hd.out.m1 hc.out.h0 hc.out.h1 hc.out.m0 hc.out.m1 hc.out.s0 hc.out.s1 hD hr.out.1 hr.out.2 (by assumption) (by assumption)).mono ?_; rintro e w2 ⟨rfl, hb⟩; obtain ⟨v0, v1, v2, hk0, hk1, hk2, hf0, hf1, hf2⟩ := SI.cells (SI.below hb (by assumption))))
  rename_i hHeld
  clear hHeld
  obtain ⟨r0, r1, r2⟩ := set3 (a := .int .u64 0) (b := .int .i64 (absD y mo d * 86400 + (h * 3600 + mi * 60 + s) + -9223371966606163200)) (c := .pointer none) hk0 hk1 hk2
  go_wp2
  refine bodyPost_ret (v := .agg #[.int .u64 0, .int .i64 (absD y mo d * 86400 + (h * 3600 + mi * 60 + s) + -9223371966606163200), .pointer none]) (by simp [results, Tryz.results33, go_sem, r0, r1, r2]) rfl ⟨ret_time (by unfold extOf; omega), ?_⟩
  have b1 : Below w.heap.size w w1 := Below.trans (by repeat (first | exact Below.refl _ _ | apply below_alloc | apply below_drew1)) (hb1.mono (by simp; omega))
  have b2 : Below w.heap.size w w2 := b1.trans (hb.mono b1.size)
  exact ((b2.setCell (Nat.le_succ _) _).setCell (Nat.le_succ _) _).setCell (Nat.le_succ _) _
end Go.Proofs.YtemgofomhjabpaaGreatDoor.Core
namespace Go.Proofs.YtemgofomhjabpaaGreatDoor.Core
open Go.RowKit Go.Proofs.YtemgofomhjabpaaGreatDoorW.PrintWords Go.Proofs.YtemgofomhjabpaaGreatDoorW.PrintLast Go.Proofs.YtemgofomhjabpaaGreatDoorW.PrintMore
attribute [local go_sem] max2_int min2_int max_two min_two max_three min_three max_four min_four   -- for this text's walks alone
set_option linter.unusedVariables false
set_option linter.unusedSimpArgs false
mutual
def gronx_zzContainsAny.l0 : Nat → ByteArray → ByteArray → Int → Option (Bool)
  | 0, _, _, _ => none
  | k + 1, x0, x1, x5 => if x5 < (x0.size : Int) then (gronx_zzContainsAny.l1 k x0 x1 x5 0) else (some false)
def gronx_zzContainsAny.l1 : Nat → ByteArray → ByteArray → Int → Int → Option (Bool)
  | 0, _, _, _, _ => none
  | k + 1, x0, x1, x5, x6 => if x6 < (x1.size : Int) then (if 0 ≤ x5 then (if x5 < (x0.size : Int) then (if 0 ≤ x6 then (if (bt x0 x5) = (bt x1 x6) then (some true) else (gronx_zzContainsAny.l1 k x0 x1 x5 (wrap64 (x6 + 1)))) else (none)) else (none)) else (none)) else (gronx_zzContainsAny.l0 k x0 x1 (wrap64 (x5 + 1)))
end
def gronx_zzContainsAny.f (k : Nat) (a0 : ByteArray) (a1 : ByteArray) : Option (Bool) := gronx_zzContainsAny.l0 k a0 a1 0
set_option maxHeartbeats 8000000 in
set_option maxRecDepth 100000 in
theorem gronx_zzContainsAny.calls (k : Nat) (a0 : ByteArray) (a1 : ByteArray) (r : Bool) (w : World) (h : gronx_zzContainsAny.f k a0 a1 = some r) :
    Calls Tryz.prog 116 #[.string a0, .string a1] w fun e w' => e = .returned (.bool r) ∧ Drawn0 w w' := by
  have H : (gronx_zzContainsAny.l0 k a0 a1 0) = some r := h
  clear h
  have H' := Aside0.mk H
  clear H
  go_enter Tryz.func116, Tryz.ntmps116
  go_wp2
  repeat (go_quiet (fail); try go_wp2)
  go_loopg [5] k (fun kq v5 w' => ∃ (x5_1 : Int), v5 = .int .i64 x5_1 ∧ Aside0 (gronx_zzContainsAny.l0 kq a0 a1 x5_1 = some r) ∧ Aside0 (kq ≤ k) ∧ Drawn0 w w')
  case atStart => exact ⟨(0), (by first | rfl | (simp; done) | (simp [*]; done)), H', ⟨Nat.le_refl _⟩, by repeat (first | exact Drawn0.refl _ | apply Drawn0.step)⟩
  case round =>
    clear H'
    try clear c1
    try clear p2
    obtain ⟨x5_1, rfl, HA, HK1, ⟨m1, rfl⟩⟩ := hrel
    cases gk with
    | zero => exact absurd HA.out (by simp [gronx_zzContainsAny.l0])
    | succ k1 =>
      have H := HA.out
      clear HA
      simp only [gronx_zzContainsAny.l0] at H
      by_cases c3 : x5_1 < (a0.size : Int)
      · rw [if_pos c3] at H
        have c3b0 : decide (x5_1 < (a0.size : Int)) = true := decide_eq_true c3
        clear c3
        have H' := Aside0.mk H
        clear H
        go_wp2
        repeat (go_quiet (fail); try go_wp2)
        go_loopg [6] k1 (fun kq v6 w' => ∃ (x6_2 : Int), v6 = .int .i64 x6_2 ∧ Aside0 (gronx_zzContainsAny.l1 kq a0 a1 x5_1 x6_2 = some r) ∧ Aside0 (kq ≤ k1) ∧ Drawn0 w w')
        case atStart => exact ⟨(0), (by first | rfl | (simp; done) | (simp [*]; done)), H', ⟨Nat.le_refl _⟩, by repeat (first | exact Drawn0.refl _ | apply Drawn0.step)⟩
        case round =>
          clear H'
          try clear c1
          try clear p2
          try clear c3
          try clear c3b0
          try clear p2
          obtain ⟨x6_2, rfl, HA, HK2, ⟨m2, rfl⟩⟩ := hrel
          cases gk with
          | zero => exact absurd HA.out (by simp [gronx_zzContainsAny.l1])
          | succ k2 =>
            have H := HA.out
            clear HA
            simp only [gronx_zzContainsAny.l1] at H
            by_cases c4 : x6_2 < (a1.size : Int)
            · rw [if_pos c4] at H
              have c4b0 : decide (x6_2 < (a1.size : Int)) = true := decide_eq_true c4
              clear c4
              by_cases c5 : 0 ≤ x5_1
              · rw [if_pos c5] at H
                have c5b0 : decide (0 ≤ x5_1) = true := decide_eq_true c5
                clear c5
                by_cases c6 : x5_1 < (a0.size : Int)
                · rw [if_pos c6] at H
                  have c6b0 : decide (x5_1 < (a0.size : Int)) = true := decide_eq_true c6
                  clear c6
                  by_cases c8 : 0 ≤ x6_2
                  · rw [if_pos c8] at H
                    have c8b0 : decide (0 ≤ x6_2) = true := decide_eq_true c8
                    clear c8
                    by_cases c10 : (bt a0 x5_1) = (bt a1 x6_2)
                    · rw [if_pos c10] at H
                      have c10b0 : ((bt a0 x5_1) == (bt a1 x6_2)) = true := beq_iff_eq.mpr c10
                      have c10b1 : ((bt a0 x5_1) != (bt a1 x6_2)) = false := bne_eq_false_iff_eq.mpr c10
                      clear c10
                      obtain rfl := Option.some.inj H
                      have p7 : 0 ≤ (x5_1 : Int) := of_decide_eq_true (by first | (with_reducible assumption) | assumption)
                      have q7 : x5_1 < (a0.size : Int) := of_decide_eq_true (by first | (with_reducible assumption) | assumption)
                      have hx7 := bt_at a0 x5_1
                      replace p7 := eq_true p7
                      replace q7 := eq_true q7
                      have p9 : 0 ≤ (x6_2 : Int) := of_decide_eq_true (by first | (with_reducible assumption) | assumption)
                      have q9 : x6_2 < (a1.size : Int) := of_decide_eq_true (by first | (with_reducible assumption) | assumption)
                      have hx9 := bt_at a1 x6_2
                      replace p9 := eq_true p9
                      replace q9 := eq_true q9
                      go_wp2
                      repeat (go_quiet (fail); try go_wp2)
                      go_ret
                      exact ⟨by first | rfl | (simp; done) | (simp [*]; done), by repeat (first | exact Drawn0.refl _ | apply Drawn0.step)⟩
                    · rw [if_neg c10] at H
                      have c10b0 : ((bt a0 x5_1) == (bt a1 x6_2)) = false := beq_eq_false_iff_ne.mpr c10
                      have c10b1 : ((bt a0 x5_1) != (bt a1 x6_2)) = true := bne_iff_ne.mpr c10
                      have H' := Aside0.mk H
                      clear H
                      have p7 : 0 ≤ (x5_1 : Int) := of_decide_eq_true (by first | (with_reducible assumption) | assumption)
                      have q7 : x5_1 < (a0.size : Int) := of_decide_eq_true (by first | (with_reducible assumption) | assumption)
                      have hx7 := bt_at a0 x5_1
                      replace p7 := eq_true p7
                      replace q7 := eq_true q7
                      have p9 : 0 ≤ (x6_2 : Int) := of_decide_eq_true (by first | (with_reducible assumption) | assumption)
                      have q9 : x6_2 < (a1.size : Int) := of_decide_eq_true (by first | (with_reducible assumption) | assumption)
                      have hx9 := bt_at a1 x6_2
                      replace p9 := eq_true p9
                      replace q9 := eq_true q9
                      go_wp2
                      repeat (go_quiet (fail); try go_wp2)
                      go_roundg k2
                      case measure => have := HK1.out; have := HK2.out; omega
                      case rel => exact ⟨(wrap64 (x6_2 + 1)), (by first | rfl | (simp; done) | (simp [*]; done)), H', ⟨by have := HK1.out; have := HK2.out; omega⟩, by repeat (first | exact Drawn0.refl _ | apply Drawn0.step)⟩
                  · rw [if_neg c8] at H
                    exact absurd H (by simp)
                · rw [if_neg c6] at H
                  exact absurd H (by simp)
              · rw [if_neg c5] at H
                exact absurd H (by simp)
            · rw [if_neg c4] at H
              have c4b0 : decide (x6_2 < (a1.size : Int)) = false := decide_eq_false c4
              clear c4
              have H' := Aside0.mk H
              clear H
              go_wp2
              repeat (go_quiet (fail); try go_wp2)
              go_roundg k2
              case measure => have := HK1.out; have := HK2.out; omega
              case rel => exact ⟨(wrap64 (x5_1 + 1)), (by first | rfl | (simp; done) | (simp [*]; done)), H', ⟨by have := HK1.out; have := HK2.out; omega⟩, by repeat (first | exact Drawn0.refl _ | apply Drawn0.step)⟩
      · rw [if_neg c3] at H
        have c3b0 : decide (x5_1 < (a0.size : Int)) = false := decide_eq_false c3
        clear c3
        obtain rfl := Option.some.inj H
        go_wp2
        repeat (go_quiet (fail); try go_wp2)
        go_ret
        exact ⟨by first | rfl | (simp; done) | (simp [*]; done), by repeat (first | exact Drawn0.refl _ | apply Drawn0.step)⟩
end Go.Proofs.YtemgofomhjabpaaGreatDoor.Core
namespace Go.Proofs.YtemgofomhjabpaaGreatDoor.Core
open Go.RowKit Go.Proofs.YtemgofomhjabpaaGreatDoorW.PrintWords
def ErrV (er : Bool) (ev : Value) : Prop := (er = false ∧ ev = .nilIface) ∨ (er = true ∧ ∃ t v, ev = .iface t v)
def OffC (c : Nat) (val : Int) (pos : Nat) (o : ByteArray) (b er : Bool) : Prop := ∀ w, Calls Tryz.prog 117 #[.pointer (some ⟨c, 0, none⟩), .string o, .int .i64 val, .int .i64 (pos : Int)] w fun e w' => ∃ ev, e = .returned (.tuple #[.bool b, ev]) ∧ ErrV er ev ∧ Below w.heap.size w w'
theorem ErrV.nil {ev : Value} (h : ErrV false ev) : ev = .nilIface := by rcases h with ⟨_, h⟩ | ⟨h, _⟩ <;> simp_all
theorem ErrV.err {ev : Value} (h : ErrV true ev) : ∃ t v, ev = .iface t v := by rcases h with ⟨h, _⟩ | ⟨_, h⟩ <;> simp_all
def DueL (c : Nat) (val : Int) (pos : Nat) : List ByteArray → Bool → Bool → Prop
  | [], b, er => b = false ∧ er = false
  | o :: t, b, er => ∃ b1 e1, OffC c val pos o b1 e1 ∧ (if b1 = true ∨ e1 = true then b = b1 ∧ er = e1 else DueL c val pos t b er)
theorem rdOf_nat (xs : List ByteArray) (j : Nat) (h : j < xs.length) : rdOf ByteArray.empty xs (j : Int) = xs[j] := by simp [rdOf, h]
def SX (n : Nat) (x : Int) (w' : World) : Prop := n < w'.heap.size ∧ w'.cell? ⟨n, 0, none⟩ = some (.int .u64 0) ∧ w'.cell? ⟨n, 1, none⟩ = some (.int .i64 x) ∧ w'.cell? ⟨n, 2, none⟩ = some (.pointer none)
theorem SX.below {n : Nat} {x : Int} {a b : World} (hb : Below a.heap.size a b) (hS : SX n x a) : SX n x b := ⟨Nat.lt_of_lt_of_le hS.1 hb.size, cell_after hb hS.2.1, cell_after hb hS.2.2.1, cell_after hb hS.2.2.2⟩
set_option maxRecDepth 100000 in
theorem ck_other (c : Nat) {x y mo d h mi s : Int} (M : Moment' x y mo d h mi s) (seg : ByteArray) (pos : Nat) (hp : pos < 7) (h3 : pos ≠ 3) (h5 : pos ≠ 5) (k : Nat) (offs : List ByteArray) (hs : gronx_zzSplit.f k seg ⟨#[44]⟩ = some offs) (hn : offs.length < 1000000)
    (b er : Bool) (hD : DueL c (posV y mo d h mi s pos) pos offs b er) (w : World) (hc0 : w.cell? ⟨c, 0, none⟩ = some (.int .u64 0)) (hc1 : w.cell? ⟨c, 1, none⟩ = some (.int .i64 x)) (hc2 : w.cell? ⟨c, 2, none⟩ = some (.pointer none)) :
    Calls Tryz.prog 111 #[.pointer (some ⟨c, 0, none⟩), .string seg, .int .i64 (pos : Int)] w fun e w' => ∃ ev, e = .returned (.tuple #[.bool b, ev]) ∧ ErrV er ev ∧ Below w.heap.size w w' := by
  have e3 : ((pos : Int) == 3) = false := by simp; omega
  have e5 : ((pos : Int) == 5) = false := by simp; omega
  have M := Aside0.mk M
  have hs := Aside0.mk hs
  have hD := Aside0.mk hD
  have hp := Aside0.mk hp
  go_enter Tryz.func111, Tryz.ntmps111
  go_wp2_with (go_at_call 112; refine (getRef_w c x _ hc0 hc1 hc2).mono ?_; rintro e w1 ⟨rfl, hb1⟩)
  go_region_held (fun w' => w1.heap.size < w'.heap.size ∧ w'.cell? ⟨w1.heap.size, 0, none⟩ = some (.int .u64 0) ∧ w'.cell? ⟨w1.heap.size, 1, none⟩ = some (.int .i64 x) ∧ w'.cell? ⟨w1.heap.size, 2, none⟩ = some (.pointer none))
    (first | exact SX.below hb2 (by assumption) | exact SX.below hb3 (by assumption) | go_keep | (trace_state; fail)) (first | (go_at_call 114; refine (val_w M.out pos hp.out _).mono ?_; rintro e w2 ⟨rfl, hb2⟩) | (go_at_call 115; refine (location_any x _).mono ?_; rintro e w3 ⟨bl, rfl, hlo, hlu, hb3⟩))
  rename_i hHeld
  clear hHeld
  have HB : Below w.heap.size w w3 := (below_step (below_step (below_drew1 (below_alloc hb1 _)) hb2) hb3)
  have HB := Aside0.mk HB
  clear hb1 hb2 hb3 hlo hlu hc0 hc1 hc2
  go_wp2_with (go_at_call 62; refine (gronx_zzSplit.calls k seg ⟨#[44]⟩ offs _ hs.out).mono ?_; rintro e w4 ⟨v0, rfl, hR, hb4⟩; obtain ⟨A, cc, rfl⟩ := Kd.R_slice hR)
  have HR := Aside0.mk (Kd.R_reads' hR).2.2
  have HB4 := Aside0.mk (below_step HB.out hb4)
  clear hR hb4 HB
  go_loopg [31] offs.length (fun kq v31 w' => ∃ (j : Nat), v31 = .int .i64 (j : Int) ∧ Aside0 (DueL c (posV y mo d h mi s pos) pos (offs.drop j) b er) ∧ Aside0 (kq + j = offs.length) ∧ Aside0 (Below w4.heap.size w4 w'))
  case atStart => exact ⟨0, rfl, hD, ⟨rfl⟩, ⟨by repeat (first | exact Below.refl _ _ | apply below_drew1 | apply pw_below_drewN)⟩⟩
  case round =>
    clear hD
    obtain ⟨j, rfl, HD, HK, HW⟩ := hrel
    by_cases hj : j < offs.length
    · have q : ((j : Int) < (offs.length : Int)) := by omega
      have p0 : 0 ≤ (j : Int) := by omega
      have q0 : decide ((j : Int) < (offs.length : Int)) = true := decide_eq_true q
      obtain ⟨ad, rfl, hx⟩ := Kd.at_string HR.out (j : Int) p0 q
      replace hx := cell_after HW.out hx
      rw [rdOf_nat _ _ hj, Int.toNat_natCast] at hx
      have HD' := HD.out
      rw [List.drop_eq_getElem_cons hj] at HD'
      obtain ⟨b1, e1, hoff, hif⟩ := HD'
      have hoff := Aside0.mk hoff
      have hif := Aside0.mk hif
      clear HD
      have hb : ∀ W, Below W.heap.size W W := fun W => Below.refl _ _
      cases b1 with
      | true =>
        obtain ⟨rfl, rfl⟩ : b = true ∧ er = e1 := by have := hif.out; simpa using this
        go_wp2_with (go_at_call 117; refine (hoff.out _).mono ?_; rintro e w5 ⟨ev, rfl, hev, hb5⟩)
        go_ret2
        exact ⟨ev, rfl, hev, below_step (below_step HB4.out HW.out) hb5⟩
      | false =>
        cases e1 with
        | true =>
          obtain ⟨rfl, rfl⟩ : b = false ∧ er = true := by have := hif.out; simpa using this
          go_wp2_with (go_at_call 117; refine (hoff.out _).mono ?_; rintro e w5 ⟨ev, rfl, hev, hb5⟩; obtain ⟨te, ve, rfl⟩ := ErrV.err hev)
          go_ret2
          exact ⟨_, rfl, hev, below_step (below_step HB4.out HW.out) hb5⟩
        | false =>
          have hr : DueL c (posV y mo d h mi s pos) pos (offs.drop (j + 1)) b er := by have := hif.out; simpa using this
          have hr := Aside0.mk hr
          go_wp2_with (go_at_call 117; refine (hoff.out _).mono ?_; rintro e w5 ⟨ev, rfl, hev, hb5⟩; obtain rfl := ErrV.nil hev)
          go_roundg (gk - 1)
          case measure => have := HK.out; omega
          case rel => exact ⟨j + 1, by simp, hr, ⟨by have := HK.out; omega⟩, ⟨by repeat (first | exact below_step HW.out hb5 | apply below_drew1 | apply pw_below_drewN)⟩⟩
    · have q0 : decide ((j : Int) < (offs.length : Int)) = false := decide_eq_false (by omega)
      have HD' := HD.out
      rw [List.drop_eq_nil_of_le (by omega)] at HD'
      obtain ⟨rfl, rfl⟩ := HD'
      go_wp2
      go_ret2
      exact ⟨_, rfl, .inl ⟨rfl, rfl⟩, below_step HB4.out HW.out⟩
end Go.Proofs.YtemgofomhjabpaaGreatDoor.Core
namespace Go.Proofs.YtemgofomhjabpaaGreatDoor.Core
open Go.RowKit Go.Proofs.YtemgofomhjabpaaGreatDoorW.PrintWords
set_option maxRecDepth 100000 in
set_option maxHeartbeats 800000 in
theorem range_in (val a b : Int) (s : ByteArray) (t : List Int) (k : Nat) (Q : List ByteArray) (hs2 : gronx_zzSplit.f k s ⟨#[45]⟩ = some Q) (hQ : Q.length = 2) (ha0 : strconv_Atoi.f (rdOf ByteArray.empty Q 0) = some (a, none)) (ha1 : strconv_Atoi.f (rdOf ByteArray.empty Q 1) = some (b, none)) (ht : t.length = 2) (hab : a ≤ b) (hlo : rd t 0 ≤ a) (hhi : b ≤ rd t 1) (hv : a ≤ val)  : InC 135 val s t false (decide (val ≤ b)) := by
  intro A cc w hC hcc
  have hs2 := Aside0.mk hs2
  have ha0 := Aside0.mk ha0
  have ha1 := Aside0.mk ha1
  obtain ⟨ab, rfl, u0, u1⟩ := two_int hC rfl (by omega)
  have qi0 : (0 < t.length) = True := eq_true (by omega)
  have qi1 : (0 < (t.length : Int)) = True := eq_true (by omega)
  have qi2 : (1 < t.length) = True := eq_true (by omega)
  have qi3 : (1 < (t.length : Int)) = True := eq_true (by omega)
  have qq0 : (1 < Q.length) = True := eq_true (by omega)
  have qq1 : (1 < (Q.length : Int)) = True := eq_true (by omega)
  have qq2 : (0 < Q.length) = True := eq_true (by omega)
  have qq3 : (0 < (Q.length : Int)) = True := eq_true (by omega)
  generalize rd t 0 = lo at *
  generalize rd t 1 = hi' at *
  have n3 : ¬ b < a := by omega
  have n4 : ¬ a < lo := by omega
  have n5 : ¬ hi' < b := by omega
  have n6 : ¬ b < lo := by omega
  have n7 : ¬ hi' < a := by omega
  go_enter Tryz.func135, Tryz.ntmps135
  go_wp2_with (first | (go_at_call 62; refine (gronx_zzSplit.calls k _ _ _ _ hs2.out).mono ?_; rintro e w3 ⟨v2, rfl, hR2, hb3⟩; obtain ⟨A2, c2, rfl⟩ := Kd.R_slice hR2; obtain ⟨ae, rfl, z0, z1⟩ := two_at (Kd.R_reads' hR2).2.2 rfl (by omega); have u6 := cell_after hb3 u0; have u7 := cell_after hb3 u1; clear hs2) | (go_at_call 136; refine (strconv_Atoi.calls _ _ _ _ ha0.out).mono ?_; rintro e w4 ⟨rfl, hb4⟩; have u8 := cell_after hb4 u6; have u9 := cell_after hb4 u7; have z2 := cell_after hb4 z1; rw [errW_none]; clear ha0) | (go_at_call 136; refine (strconv_Atoi.calls _ _ _ _ ha1.out).mono ?_; rintro e w5 ⟨rfl, hb5⟩; have v8 := cell_after hb5 u8; have v9 := cell_after hb5 u9; rw [errW_none]; clear ha1))
  go_ret2
  exact ⟨by first | rfl | simp [*], by repeat (first | exact below_step (below_step hb3 hb4) hb5 | apply pw_below_drewN)⟩
set_option maxRecDepth 100000 in
set_option maxHeartbeats 800000 in
theorem range_out (val a b : Int) (s : ByteArray) (t : List Int) (k : Nat) (Q : List ByteArray) (hs2 : gronx_zzSplit.f k s ⟨#[45]⟩ = some Q) (hQ : Q.length = 2) (ha0 : strconv_Atoi.f (rdOf ByteArray.empty Q 0) = some (a, none)) (ha1 : strconv_Atoi.f (rdOf ByteArray.empty Q 1) = some (b, none)) (ht : t.length = 2) (hab : a ≤ b) (hlo : rd t 0 ≤ a) (hhi : b ≤ rd t 1) (hv0 : ¬ a ≤ val)  : InC 135 val s t false false := by
  intro A cc w hC hcc
  have hs2 := Aside0.mk hs2
  have ha0 := Aside0.mk ha0
  have ha1 := Aside0.mk ha1
  obtain ⟨ab, rfl, u0, u1⟩ := two_int hC rfl (by omega)
  have qi0 : (0 < t.length) = True := eq_true (by omega)
  have qi1 : (0 < (t.length : Int)) = True := eq_true (by omega)
  have qi2 : (1 < t.length) = True := eq_true (by omega)
  have qi3 : (1 < (t.length : Int)) = True := eq_true (by omega)
  have qq0 : (1 < Q.length) = True := eq_true (by omega)
  have qq1 : (1 < (Q.length : Int)) = True := eq_true (by omega)
  have qq2 : (0 < Q.length) = True := eq_true (by omega)
  have qq3 : (0 < (Q.length : Int)) = True := eq_true (by omega)
  generalize rd t 0 = lo at *
  generalize rd t 1 = hi' at *
  have n3 : ¬ b < a := by omega
  have n4 : ¬ a < lo := by omega
  have n5 : ¬ hi' < b := by omega
  have n6 : ¬ b < lo := by omega
  have n7 : ¬ hi' < a := by omega
  have hv : val < a := by omega
  clear hv0
  go_enter Tryz.func135, Tryz.ntmps135
  go_wp2_with (first | (go_at_call 62; refine (gronx_zzSplit.calls k _ _ _ _ hs2.out).mono ?_; rintro e w3 ⟨v2, rfl, hR2, hb3⟩; obtain ⟨A2, c2, rfl⟩ := Kd.R_slice hR2; obtain ⟨ae, rfl, z0, z1⟩ := two_at (Kd.R_reads' hR2).2.2 rfl (by omega); have u6 := cell_after hb3 u0; have u7 := cell_after hb3 u1; clear hs2) | (go_at_call 136; refine (strconv_Atoi.calls _ _ _ _ ha0.out).mono ?_; rintro e w4 ⟨rfl, hb4⟩; have u8 := cell_after hb4 u6; have u9 := cell_after hb4 u7; have z2 := cell_after hb4 z1; rw [errW_none]; clear ha0) | (go_at_call 136; refine (strconv_Atoi.calls _ _ _ _ ha1.out).mono ?_; rintro e w5 ⟨rfl, hb5⟩; have v8 := cell_after hb5 u8; have v9 := cell_after hb5 u9; rw [errW_none]; clear ha1))
  go_ret2
  exact ⟨by first | rfl | simp [*], by repeat (first | exact below_step (below_step hb3 hb4) hb5 | apply pw_below_drewN)⟩
set_option maxRecDepth 100000 in
set_option maxHeartbeats 800000 in
theorem range_in_wd (val a b : Int) (s : ByteArray) (t : List Int) (k : Nat) (Q : List ByteArray) (hs2 : gronx_zzSplit.f k s ⟨#[45]⟩ = some Q) (hQ : Q.length = 2) (ha0 : strconv_Atoi.f (rdOf ByteArray.empty Q 0) = some (a, none)) (ha1 : strconv_Atoi.f (rdOf ByteArray.empty Q 1) = some (b, none)) (ht : t.length = 2) (hab : a ≤ b) (hlo : rd t 0 ≤ a) (hhi : b ≤ rd t 1) (b6 : b ≤ 6) (hv : a ≤ val)  : InC 135 val s t true (decide (val ≤ b)) := by
  intro A cc w hC hcc
  have hs2 := Aside0.mk hs2
  have ha0 := Aside0.mk ha0
  have ha1 := Aside0.mk ha1
  obtain ⟨ab, rfl, u0, u1⟩ := two_int hC rfl (by omega)
  have qi0 : (0 < t.length) = True := eq_true (by omega)
  have qi1 : (0 < (t.length : Int)) = True := eq_true (by omega)
  have qi2 : (1 < t.length) = True := eq_true (by omega)
  have qi3 : (1 < (t.length : Int)) = True := eq_true (by omega)
  have qq0 : (1 < Q.length) = True := eq_true (by omega)
  have qq1 : (1 < (Q.length : Int)) = True := eq_true (by omega)
  have qq2 : (0 < Q.length) = True := eq_true (by omega)
  have qq3 : (0 < (Q.length : Int)) = True := eq_true (by omega)
  generalize rd t 0 = lo at *
  generalize rd t 1 = hi' at *
  have n3 : ¬ b < a := by omega
  have n4 : ¬ a < lo := by omega
  have n5 : ¬ hi' < b := by omega
  have n6 : ¬ b < lo := by omega
  have n7 : ¬ hi' < a := by omega
  have m6 : (a == 7) = false := beq_eq_false_iff_ne.mpr (by omega)
  have m7 : (b == 7) = false := beq_eq_false_iff_ne.mpr (by omega)
  have m8 : a ≠ 7 := by omega
  have m9 : b ≠ 7 := by omega
  go_enter Tryz.func135, Tryz.ntmps135
  go_wp2_with (first | (go_at_call 62; refine (gronx_zzSplit.calls k _ _ _ _ hs2.out).mono ?_; rintro e w3 ⟨v2, rfl, hR2, hb3⟩; obtain ⟨A2, c2, rfl⟩ := Kd.R_slice hR2; obtain ⟨ae, rfl, z0, z1⟩ := two_at (Kd.R_reads' hR2).2.2 rfl (by omega); have u6 := cell_after hb3 u0; have u7 := cell_after hb3 u1; clear hs2) | (go_at_call 136; refine (strconv_Atoi.calls _ _ _ _ ha0.out).mono ?_; rintro e w4 ⟨rfl, hb4⟩; have u8 := cell_after hb4 u6; have u9 := cell_after hb4 u7; have z2 := cell_after hb4 z1; rw [errW_none]; clear ha0) | (go_at_call 136; refine (strconv_Atoi.calls _ _ _ _ ha1.out).mono ?_; rintro e w5 ⟨rfl, hb5⟩; have v8 := cell_after hb5 u8; have v9 := cell_after hb5 u9; rw [errW_none]; clear ha1))
  go_ret2
  exact ⟨by first | rfl | simp [*], by repeat (first | exact below_step (below_step hb3 hb4) hb5 | apply pw_below_drewN)⟩
set_option maxRecDepth 100000 in
set_option maxHeartbeats 800000 in
theorem range_out_wd (val a b : Int) (s : ByteArray) (t : List Int) (k : Nat) (Q : List ByteArray) (hs2 : gronx_zzSplit.f k s ⟨#[45]⟩ = some Q) (hQ : Q.length = 2) (ha0 : strconv_Atoi.f (rdOf ByteArray.empty Q 0) = some (a, none)) (ha1 : strconv_Atoi.f (rdOf ByteArray.empty Q 1) = some (b, none)) (ht : t.length = 2) (hab : a ≤ b) (hlo : rd t 0 ≤ a) (hhi : b ≤ rd t 1) (b6 : b ≤ 6) (hv0 : ¬ a ≤ val)  : InC 135 val s t true false := by
  intro A cc w hC hcc
  have hs2 := Aside0.mk hs2
  have ha0 := Aside0.mk ha0
  have ha1 := Aside0.mk ha1
  obtain ⟨ab, rfl, u0, u1⟩ := two_int hC rfl (by omega)
  have qi0 : (0 < t.length) = True := eq_true (by omega)
  have qi1 : (0 < (t.length : Int)) = True := eq_true (by omega)
  have qi2 : (1 < t.length) = True := eq_true (by omega)
  have qi3 : (1 < (t.length : Int)) = True := eq_true (by omega)
  have qq0 : (1 < Q.length) = True := eq_true (by omega)
  have qq1 : (1 < (Q.length : Int)) = True := eq_true (by omega)
  have qq2 : (0 < Q.length) = True := eq_true (by omega)
  have qq3 : (0 < (Q.length : Int)) = True := eq_true (by omega)
  generalize rd t 0 = lo at *
  generalize rd t 1 = hi' at *
  have n3 : ¬ b < a := by omega
  have n4 : ¬ a < lo := by omega
  have n5 : ¬ hi' < b := by omega
  have n6 : ¬ b < lo := by omega
  have n7 : ¬ hi' < a := by omega
  have m6 : (a == 7) = false := beq_eq_false_iff_ne.mpr (by omega)
  have m7 : (b == 7) = false := beq_eq_false_iff_ne.mpr (by omega)
  have m8 : a ≠ 7 := by omega
  have m9 : b ≠ 7 := by omega
  have hv : val < a := by omega
  clear hv0
  go_enter Tryz.func135, Tryz.ntmps135
  go_wp2_with (first | (go_at_call 62; refine (gronx_zzSplit.calls k _ _ _ _ hs2.out).mono ?_; rintro e w3 ⟨v2, rfl, hR2, hb3⟩; obtain ⟨A2, c2, rfl⟩ := Kd.R_slice hR2; obtain ⟨ae, rfl, z0, z1⟩ := two_at (Kd.R_reads' hR2).2.2 rfl (by omega); have u6 := cell_after hb3 u0; have u7 := cell_after hb3 u1; clear hs2) | (go_at_call 136; refine (strconv_Atoi.calls _ _ _ _ ha0.out).mono ?_; rintro e w4 ⟨rfl, hb4⟩; have u8 := cell_after hb4 u6; have u9 := cell_after hb4 u7; have z2 := cell_after hb4 z1; rw [errW_none]; clear ha0) | (go_at_call 136; refine (strconv_Atoi.calls _ _ _ _ ha1.out).mono ?_; rintro e w5 ⟨rfl, hb5⟩; have v8 := cell_after hb5 u8; have v9 := cell_after hb5 u9; rw [errW_none]; clear ha1))
  go_ret2
  exact ⟨by first | rfl | simp [*], by repeat (first | exact below_step (below_step hb3 hb4) hb5 | apply pw_below_drewN)⟩
set_option maxRecDepth 100000 in
set_option maxHeartbeats 800000 in
theorem offStar_w (c : Nat) (val : Int) (pos : Nat) : OffC c val pos ⟨#[42]⟩ true false := by
  intro w
  go_enter Tryz.func117, Tryz.ntmps117
  go_wp2
  go_ret2
  exact ⟨_, rfl, .inl ⟨rfl, rfl⟩, by repeat (first | exact Below.refl _ _ | apply pw_below_drewN)⟩
set_option maxRecDepth 100000 in
set_option maxHeartbeats 800000 in
theorem offStep_w (c : Nat) (o : ByteArray) (k : Nat) (val : Int) (t : List Int) (pos : Nat) (s1 : o.toList ≠ ([42] : List UInt8)) (s2 : o.toList ≠ ([63] : List UInt8)) (hb : gronx_boundsByPos.f k (pos : Int) = some t) (h1 : gronx_zzContains.f k o ⟨#[47]⟩ = some true) (r : Bool) (hin : InC 134 val o t ((pos : Int) == 5) r) : OffC c val pos o r false := by
  intro w
  have hb := Aside0.mk hb
  have q1 : (o.toList == ([42] : List UInt8)) = false := beq_eq_false_iff_ne.mpr s1
  have q2 : (o.toList == ([63] : List UInt8)) = false := beq_eq_false_iff_ne.mpr s2
  have h1 := Aside0.mk h1
  have hin := Aside0.mk hin
  go_enter Tryz.func117, Tryz.ntmps117
  go_wp2_with (first | (go_at_call 132; refine (gronx_boundsByPos.calls k _ _ _ hb.out).mono ?_; rintro e w1 ⟨v0, rfl, hR, hb1⟩; obtain ⟨A, cc, rfl⟩ := Kd.R_slice hR) | (go_at_call 133; refine (gronx_zzContains.calls k _ _ _ _ h1.out).mono ?_; rintro e wz ⟨rfl, ⟨nd, rfl⟩⟩; clear h1) | (go_at_call 134; refine (hin.out _ _ _ (Kd.C_below (Kd.R_reads' hR).2.2 (by repeat (first | exact Below.refl _ _ | apply pw_below_drewN))) (Kd.R_reads' hR).2.1).mono ?_; rintro e w2 ⟨rfl, hb2⟩))
  go_ret2
  exact ⟨_, rfl, .inl ⟨rfl, rfl⟩, below_step (by repeat (first | exact hb1 | apply pw_below_drewN)) hb2⟩
set_option maxRecDepth 100000 in
set_option maxHeartbeats 800000 in
theorem offRange_w (c : Nat) (o : ByteArray) (k : Nat) (val : Int) (t : List Int) (pos : Nat) (s1 : o.toList ≠ ([42] : List UInt8)) (s2 : o.toList ≠ ([63] : List UInt8)) (hb : gronx_boundsByPos.f k (pos : Int) = some t) (h1 : gronx_zzContains.f k o ⟨#[47]⟩ = some false) (h2 : gronx_zzContains.f k o ⟨#[45]⟩ = some true) (r : Bool) (hin : InC 135 val o t ((pos : Int) == 5) r) : OffC c val pos o r false := by
  intro w
  have hb := Aside0.mk hb
  have q1 : (o.toList == ([42] : List UInt8)) = false := beq_eq_false_iff_ne.mpr s1
  have q2 : (o.toList == ([63] : List UInt8)) = false := beq_eq_false_iff_ne.mpr s2
  have h1 := Aside0.mk h1
  have h2 := Aside0.mk h2
  have hin := Aside0.mk hin
  go_enter Tryz.func117, Tryz.ntmps117
  go_wp2_with (first | (go_at_call 132; refine (gronx_boundsByPos.calls k _ _ _ hb.out).mono ?_; rintro e w1 ⟨v0, rfl, hR, hb1⟩; obtain ⟨A, cc, rfl⟩ := Kd.R_slice hR) | (go_at_call 133; refine (gronx_zzContains.calls k _ _ _ _ h1.out).mono ?_; rintro e wz ⟨rfl, ⟨nd, rfl⟩⟩; clear h1) | (go_at_call 133; refine (gronx_zzContains.calls k _ _ _ _ h2.out).mono ?_; rintro e wz ⟨rfl, ⟨nd2, rfl⟩⟩; clear h2) | (go_at_call 135; refine (hin.out _ _ _ (Kd.C_below (Kd.R_reads' hR).2.2 (by repeat (first | exact Below.refl _ _ | apply pw_below_drewN))) (Kd.R_reads' hR).2.1).mono ?_; rintro e w2 ⟨rfl, hb2⟩))
  go_ret2
  exact ⟨_, rfl, .inl ⟨rfl, rfl⟩, below_step (by repeat (first | exact hb1 | apply pw_below_drewN)) hb2⟩
set_option maxRecDepth 100000 in
set_option maxHeartbeats 800000 in
theorem offNum_wd_eq (c : Nat) (o : ByteArray) (k : Nat) (val : Int) (t : List Int) (pos : Nat) (s1 : o.toList ≠ ([42] : List UInt8)) (s2 : o.toList ≠ ([63] : List UInt8)) (hb : gronx_boundsByPos.f k (pos : Int) = some t) (ht : t.length = 2) (n : Int) (h1 : gronx_zzContains.f k o ⟨#[47]⟩ = some false) (h2 : gronx_zzContains.f k o ⟨#[45]⟩ = some false) (ha : strconv_Atoi.f o = some (n, none)) (hlo : rd t 0 ≤ n) (hhi : n ≤ rd t 1) (hp : pos = 5) (hn : n = val)  : OffC c val pos o true false := by
  intro w
  have hb := Aside0.mk hb
  have q1 : (o.toList == ([42] : List UInt8)) = false := beq_eq_false_iff_ne.mpr s1
  have q2 : (o.toList == ([63] : List UInt8)) = false := beq_eq_false_iff_ne.mpr s2
  have h1 := Aside0.mk h1
  have h2 := Aside0.mk h2
  have ha := Aside0.mk ha
  have qi0 : (0 < t.length) = True := eq_true (by omega)
  have qi1 : (0 < (t.length : Int)) = True := eq_true (by omega)
  have qi2 : (1 < t.length) = True := eq_true (by omega)
  have qi3 : (1 < (t.length : Int)) = True := eq_true (by omega)
  have g0 : ∃ lo, rd t 0 = lo := ⟨_, rfl⟩
  have g1 : ∃ hi, rd t 1 = hi := ⟨_, rfl⟩
  obtain ⟨lo, g0⟩ := g0
  obtain ⟨hi, g1⟩ := g1
  rw [g0] at hlo
  rw [g1] at hhi
  have n4 : ¬ n < lo := by omega
  have n5 : ¬ hi < n := by omega
  have e5 : ((pos : Int) == 5) = true := by simp; omega
  clear hp
  have f1 : (n == val) = true := by simp [hn]
  clear hn
  go_enter Tryz.func117, Tryz.ntmps117
  go_wp2_with (first | (go_at_call 132; refine (gronx_boundsByPos.calls k _ _ _ hb.out).mono ?_; rintro e w1 ⟨v0, rfl, hR, hb1⟩; obtain ⟨A, cc, rfl⟩ := Kd.R_slice hR) | (go_at_call 133; refine (gronx_zzContains.calls k _ _ _ _ h1.out).mono ?_; rintro e wz ⟨rfl, ⟨nd, rfl⟩⟩; clear h1) | (go_at_call 133; refine (gronx_zzContains.calls k _ _ _ _ h2.out).mono ?_; rintro e wz ⟨rfl, ⟨nd2, rfl⟩⟩; clear h2) | (go_at_call 136; refine (strconv_Atoi.calls _ _ _ _ ha.out).mono ?_; rintro e w2 ⟨rfl, hb2⟩; rw [errW_none]; obtain ⟨ad, rfl, y0, y1⟩ := two_int (Kd.R_reads' hR).2.2 rfl (by omega); have x0 := cell_after (by repeat (first | exact hb2 | exact below_step (by repeat (first | exact Below.refl _ _ | apply pw_below_drewN)) hb2)) y0; rw [g0] at x0; have x1 := cell_after (by repeat (first | exact hb2 | exact below_step (by repeat (first | exact Below.refl _ _ | apply pw_below_drewN)) hb2)) y1; rw [g1] at x1))
  go_ret2
  exact ⟨_, rfl, .inl ⟨rfl, rfl⟩, below_step (by repeat (first | exact hb1 | apply pw_below_drewN)) hb2⟩
set_option maxRecDepth 100000 in
set_option maxHeartbeats 800000 in
theorem offNum_wd_ne (c : Nat) (o : ByteArray) (k : Nat) (val : Int) (t : List Int) (pos : Nat) (s1 : o.toList ≠ ([42] : List UInt8)) (s2 : o.toList ≠ ([63] : List UInt8)) (hb : gronx_boundsByPos.f k (pos : Int) = some t) (ht : t.length = 2) (n : Int) (h1 : gronx_zzContains.f k o ⟨#[47]⟩ = some false) (h2 : gronx_zzContains.f k o ⟨#[45]⟩ = some false) (ha : strconv_Atoi.f o = some (n, none)) (hlo : rd t 0 ≤ n) (hhi : n ≤ rd t 1) (hp : pos = 5) (n6 : n ≤ 6) (hn : n ≠ val)  : OffC c val pos o false false := by
  intro w
  have hb := Aside0.mk hb
  have q1 : (o.toList == ([42] : List UInt8)) = false := beq_eq_false_iff_ne.mpr s1
  have q2 : (o.toList == ([63] : List UInt8)) = false := beq_eq_false_iff_ne.mpr s2
  have h1 := Aside0.mk h1
  have h2 := Aside0.mk h2
  have ha := Aside0.mk ha
  have qi0 : (0 < t.length) = True := eq_true (by omega)
  have qi1 : (0 < (t.length : Int)) = True := eq_true (by omega)
  have qi2 : (1 < t.length) = True := eq_true (by omega)
  have qi3 : (1 < (t.length : Int)) = True := eq_true (by omega)
  have g0 : ∃ lo, rd t 0 = lo := ⟨_, rfl⟩
  have g1 : ∃ hi, rd t 1 = hi := ⟨_, rfl⟩
  obtain ⟨lo, g0⟩ := g0
  obtain ⟨hi, g1⟩ := g1
  rw [g0] at hlo
  rw [g1] at hhi
  have n4 : ¬ n < lo := by omega
  have n5 : ¬ hi < n := by omega
  have e5 : ((pos : Int) == 5) = true := by simp; omega
  clear hp
  have f1 : (n == val) = false := by simp [hn]
  have f2 : (n == 7) = false := by simp; omega
  have f3 : n ≠ 7 := by omega
  go_enter Tryz.func117, Tryz.ntmps117
  go_wp2_with (first | (go_at_call 132; refine (gronx_boundsByPos.calls k _ _ _ hb.out).mono ?_; rintro e w1 ⟨v0, rfl, hR, hb1⟩; obtain ⟨A, cc, rfl⟩ := Kd.R_slice hR) | (go_at_call 133; refine (gronx_zzContains.calls k _ _ _ _ h1.out).mono ?_; rintro e wz ⟨rfl, ⟨nd, rfl⟩⟩; clear h1) | (go_at_call 133; refine (gronx_zzContains.calls k _ _ _ _ h2.out).mono ?_; rintro e wz ⟨rfl, ⟨nd2, rfl⟩⟩; clear h2) | (go_at_call 136; refine (strconv_Atoi.calls _ _ _ _ ha.out).mono ?_; rintro e w2 ⟨rfl, hb2⟩; rw [errW_none]; obtain ⟨ad, rfl, y0, y1⟩ := two_int (Kd.R_reads' hR).2.2 rfl (by omega); have x0 := cell_after (by repeat (first | exact hb2 | exact below_step (by repeat (first | exact Below.refl _ _ | apply pw_below_drewN)) hb2)) y0; rw [g0] at x0; have x1 := cell_after (by repeat (first | exact hb2 | exact below_step (by repeat (first | exact Below.refl _ _ | apply pw_below_drewN)) hb2)) y1; rw [g1] at x1))
  go_ret2
  exact ⟨_, rfl, .inl ⟨rfl, rfl⟩, below_step (by repeat (first | exact hb1 | apply pw_below_drewN)) hb2⟩
set_option maxRecDepth 100000 in
set_option maxHeartbeats 800000 in
theorem offNum_zz (c : Nat) (o : ByteArray) (k : Nat) (val : Int) (t : List Int) (pos : Nat) (s1 : o.toList ≠ ([42] : List UInt8)) (s2 : o.toList ≠ ([63] : List UInt8)) (hb : gronx_boundsByPos.f k (pos : Int) = some t) (ht : t.length = 2) (n : Int) (h1 : gronx_zzContains.f k o ⟨#[47]⟩ = some false) (h2 : gronx_zzContains.f k o ⟨#[45]⟩ = some false) (ha : strconv_Atoi.f o = some (n, none)) (hlo : rd t 0 ≤ n) (hhi : n ≤ rd t 1) (hp : pos ≠ 5) (hv : val = 0) (hn : n = 0)  : OffC c val pos o true false := by
  intro w
  have hb := Aside0.mk hb
  have q1 : (o.toList == ([42] : List UInt8)) = false := beq_eq_false_iff_ne.mpr s1
  have q2 : (o.toList == ([63] : List UInt8)) = false := beq_eq_false_iff_ne.mpr s2
  have h1 := Aside0.mk h1
  have h2 := Aside0.mk h2
  have ha := Aside0.mk ha
  have qi0 : (0 < t.length) = True := eq_true (by omega)
  have qi1 : (0 < (t.length : Int)) = True := eq_true (by omega)
  have qi2 : (1 < t.length) = True := eq_true (by omega)
  have qi3 : (1 < (t.length : Int)) = True := eq_true (by omega)
  have g0 : ∃ lo, rd t 0 = lo := ⟨_, rfl⟩
  have g1 : ∃ hi, rd t 1 = hi := ⟨_, rfl⟩
  obtain ⟨lo, g0⟩ := g0
  obtain ⟨hi, g1⟩ := g1
  rw [g0] at hlo
  rw [g1] at hhi
  have n4 : ¬ n < lo := by omega
  have n5 : ¬ hi < n := by omega
  have e5 : ((pos : Int) == 5) = false := by simp; omega
  clear hp
  have f1 : (val == 0) = true := by simp [hv]
  have f2 : (n == 0) = true := by simp [hn]
  clear hv hn
  go_enter Tryz.func117, Tryz.ntmps117
  go_wp2_with (first | (go_at_call 132; refine (gronx_boundsByPos.calls k _ _ _ hb.out).mono ?_; rintro e w1 ⟨v0, rfl, hR, hb1⟩; obtain ⟨A, cc, rfl⟩ := Kd.R_slice hR) | (go_at_call 133; refine (gronx_zzContains.calls k _ _ _ _ h1.out).mono ?_; rintro e wz ⟨rfl, ⟨nd, rfl⟩⟩; clear h1) | (go_at_call 133; refine (gronx_zzContains.calls k _ _ _ _ h2.out).mono ?_; rintro e wz ⟨rfl, ⟨nd2, rfl⟩⟩; clear h2) | (go_at_call 136; refine (strconv_Atoi.calls _ _ _ _ ha.out).mono ?_; rintro e w2 ⟨rfl, hb2⟩; rw [errW_none]; obtain ⟨ad, rfl, y0, y1⟩ := two_int (Kd.R_reads' hR).2.2 rfl (by omega); have x0 := cell_after (by repeat (first | exact hb2 | exact below_step (by repeat (first | exact Below.refl _ _ | apply pw_below_drewN)) hb2)) y0; rw [g0] at x0; have x1 := cell_after (by repeat (first | exact hb2 | exact below_step (by repeat (first | exact Below.refl _ _ | apply pw_below_drewN)) hb2)) y1; rw [g1] at x1))
  go_ret2
  exact ⟨_, rfl, .inl ⟨rfl, rfl⟩, below_step (by repeat (first | exact hb1 | apply pw_below_drewN)) hb2⟩
set_option maxRecDepth 100000 in
set_option maxHeartbeats 800000 in
theorem offNum_zn (c : Nat) (o : ByteArray) (k : Nat) (val : Int) (t : List Int) (pos : Nat) (s1 : o.toList ≠ ([42] : List UInt8)) (s2 : o.toList ≠ ([63] : List UInt8)) (hb : gronx_boundsByPos.f k (pos : Int) = some t) (ht : t.length = 2) (n : Int) (h1 : gronx_zzContains.f k o ⟨#[47]⟩ = some false) (h2 : gronx_zzContains.f k o ⟨#[45]⟩ = some false) (ha : strconv_Atoi.f o = some (n, none)) (hlo : rd t 0 ≤ n) (hhi : n ≤ rd t 1) (hp : pos ≠ 5) (hv : val = 0) (hn : n ≠ 0)  : OffC c val pos o false false := by
  intro w
  have hb := Aside0.mk hb
  have q1 : (o.toList == ([42] : List UInt8)) = false := beq_eq_false_iff_ne.mpr s1
  have q2 : (o.toList == ([63] : List UInt8)) = false := beq_eq_false_iff_ne.mpr s2
  have h1 := Aside0.mk h1
  have h2 := Aside0.mk h2
  have ha := Aside0.mk ha
  have qi0 : (0 < t.length) = True := eq_true (by omega)
  have qi1 : (0 < (t.length : Int)) = True := eq_true (by omega)
  have qi2 : (1 < t.length) = True := eq_true (by omega)
  have qi3 : (1 < (t.length : Int)) = True := eq_true (by omega)
  have g0 : ∃ lo, rd t 0 = lo := ⟨_, rfl⟩
  have g1 : ∃ hi, rd t 1 = hi := ⟨_, rfl⟩
  obtain ⟨lo, g0⟩ := g0
  obtain ⟨hi, g1⟩ := g1
  rw [g0] at hlo
  rw [g1] at hhi
  have n4 : ¬ n < lo := by omega
  have n5 : ¬ hi < n := by omega
  have e5 : ((pos : Int) == 5) = false := by simp; omega
  clear hp
  have f1 : (val == 0) = true := by simp [hv]
  have f2 : (n == 0) = false := by simp [hn]
  clear hv
  go_enter Tryz.func117, Tryz.ntmps117
  go_wp2_with (first | (go_at_call 132; refine (gronx_boundsByPos.calls k _ _ _ hb.out).mono ?_; rintro e w1 ⟨v0, rfl, hR, hb1⟩; obtain ⟨A, cc, rfl⟩ := Kd.R_slice hR) | (go_at_call 133; refine (gronx_zzContains.calls k _ _ _ _ h1.out).mono ?_; rintro e wz ⟨rfl, ⟨nd, rfl⟩⟩; clear h1) | (go_at_call 133; refine (gronx_zzContains.calls k _ _ _ _ h2.out).mono ?_; rintro e wz ⟨rfl, ⟨nd2, rfl⟩⟩; clear h2) | (go_at_call 136; refine (strconv_Atoi.calls _ _ _ _ ha.out).mono ?_; rintro e w2 ⟨rfl, hb2⟩; rw [errW_none]; obtain ⟨ad, rfl, y0, y1⟩ := two_int (Kd.R_reads' hR).2.2 rfl (by omega); have x0 := cell_after (by repeat (first | exact hb2 | exact below_step (by repeat (first | exact Below.refl _ _ | apply pw_below_drewN)) hb2)) y0; rw [g0] at x0; have x1 := cell_after (by repeat (first | exact hb2 | exact below_step (by repeat (first | exact Below.refl _ _ | apply pw_below_drewN)) hb2)) y1; rw [g1] at x1))
  go_ret2
  exact ⟨_, rfl, .inl ⟨rfl, rfl⟩, below_step (by repeat (first | exact hb1 | apply pw_below_drewN)) hb2⟩
set_option maxRecDepth 100000 in
set_option maxHeartbeats 800000 in
theorem offNum_nz (c : Nat) (o : ByteArray) (k : Nat) (val : Int) (t : List Int) (pos : Nat) (s1 : o.toList ≠ ([42] : List UInt8)) (s2 : o.toList ≠ ([63] : List UInt8)) (hb : gronx_boundsByPos.f k (pos : Int) = some t) (ht : t.length = 2) (n : Int) (h1 : gronx_zzContains.f k o ⟨#[47]⟩ = some false) (h2 : gronx_zzContains.f k o ⟨#[45]⟩ = some false) (ha : strconv_Atoi.f o = some (n, none)) (hlo : rd t 0 ≤ n) (hhi : n ≤ rd t 1) (hp : pos ≠ 5) (hv : val ≠ 0) (hn : n = 0)  : OffC c val pos o false false := by
  intro w
  have hb := Aside0.mk hb
  have q1 : (o.toList == ([42] : List UInt8)) = false := beq_eq_false_iff_ne.mpr s1
  have q2 : (o.toList == ([63] : List UInt8)) = false := beq_eq_false_iff_ne.mpr s2
  have h1 := Aside0.mk h1
  have h2 := Aside0.mk h2
  have ha := Aside0.mk ha
  have qi0 : (0 < t.length) = True := eq_true (by omega)
  have qi1 : (0 < (t.length : Int)) = True := eq_true (by omega)
  have qi2 : (1 < t.length) = True := eq_true (by omega)
  have qi3 : (1 < (t.length : Int)) = True := eq_true (by omega)
  have g0 : ∃ lo, rd t 0 = lo := ⟨_, rfl⟩
  have g1 : ∃ hi, rd t 1 = hi := ⟨_, rfl⟩
  obtain ⟨lo, g0⟩ := g0
  obtain ⟨hi, g1⟩ := g1
  rw [g0] at hlo
  rw [g1] at hhi
  have n4 : ¬ n < lo := by omega
  have n5 : ¬ hi < n := by omega
  have e5 : ((pos : Int) == 5) = false := by simp; omega
  clear hp
  have f1 : (val == 0) = false := by simp [hv]
  have f2 : (n == 0) = true := by simp [hn]
  clear hn
  go_enter Tryz.func117, Tryz.ntmps117
  go_wp2_with (first | (go_at_call 132; refine (gronx_boundsByPos.calls k _ _ _ hb.out).mono ?_; rintro e w1 ⟨v0, rfl, hR, hb1⟩; obtain ⟨A, cc, rfl⟩ := Kd.R_slice hR) | (go_at_call 133; refine (gronx_zzContains.calls k _ _ _ _ h1.out).mono ?_; rintro e wz ⟨rfl, ⟨nd, rfl⟩⟩; clear h1) | (go_at_call 133; refine (gronx_zzContains.calls k _ _ _ _ h2.out).mono ?_; rintro e wz ⟨rfl, ⟨nd2, rfl⟩⟩; clear h2) | (go_at_call 136; refine (strconv_Atoi.calls _ _ _ _ ha.out).mono ?_; rintro e w2 ⟨rfl, hb2⟩; rw [errW_none]; obtain ⟨ad, rfl, y0, y1⟩ := two_int (Kd.R_reads' hR).2.2 rfl (by omega); have x0 := cell_after (by repeat (first | exact hb2 | exact below_step (by repeat (first | exact Below.refl _ _ | apply pw_below_drewN)) hb2)) y0; rw [g0] at x0; have x1 := cell_after (by repeat (first | exact hb2 | exact below_step (by repeat (first | exact Below.refl _ _ | apply pw_below_drewN)) hb2)) y1; rw [g1] at x1))
  go_ret2
  exact ⟨_, rfl, .inl ⟨rfl, rfl⟩, below_step (by repeat (first | exact hb1 | apply pw_below_drewN)) hb2⟩
set_option maxRecDepth 100000 in
set_option maxHeartbeats 800000 in
theorem offNum_eq (c : Nat) (o : ByteArray) (k : Nat) (val : Int) (t : List Int) (pos : Nat) (s1 : o.toList ≠ ([42] : List UInt8)) (s2 : o.toList ≠ ([63] : List UInt8)) (hb : gronx_boundsByPos.f k (pos : Int) = some t) (ht : t.length = 2) (n : Int) (h1 : gronx_zzContains.f k o ⟨#[47]⟩ = some false) (h2 : gronx_zzContains.f k o ⟨#[45]⟩ = some false) (ha : strconv_Atoi.f o = some (n, none)) (hlo : rd t 0 ≤ n) (hhi : n ≤ rd t 1) (hp : pos ≠ 5) (hv : val ≠ 0) (hn0 : n ≠ 0) (hn : n = val)  : OffC c val pos o true false := by
  intro w
  have hb := Aside0.mk hb
  have q1 : (o.toList == ([42] : List UInt8)) = false := beq_eq_false_iff_ne.mpr s1
  have q2 : (o.toList == ([63] : List UInt8)) = false := beq_eq_false_iff_ne.mpr s2
  have h1 := Aside0.mk h1
  have h2 := Aside0.mk h2
  have ha := Aside0.mk ha
  have qi0 : (0 < t.length) = True := eq_true (by omega)
  have qi1 : (0 < (t.length : Int)) = True := eq_true (by omega)
  have qi2 : (1 < t.length) = True := eq_true (by omega)
  have qi3 : (1 < (t.length : Int)) = True := eq_true (by omega)
  have g0 : ∃ lo, rd t 0 = lo := ⟨_, rfl⟩
  have g1 : ∃ hi, rd t 1 = hi := ⟨_, rfl⟩
  obtain ⟨lo, g0⟩ := g0
  obtain ⟨hi, g1⟩ := g1
  rw [g0] at hlo
  rw [g1] at hhi
  have n4 : ¬ n < lo := by omega
  have n5 : ¬ hi < n := by omega
  have e5 : ((pos : Int) == 5) = false := by simp; omega
  clear hp
  have f1 : (val == 0) = false := by simp [hv]
  have f2 : (n == 0) = false := by simp [hn0]
  have f3 : (n == val) = true := by simp [hn]
  clear hn
  go_enter Tryz.func117, Tryz.ntmps117
  go_wp2_with (first | (go_at_call 132; refine (gronx_boundsByPos.calls k _ _ _ hb.out).mono ?_; rintro e w1 ⟨v0, rfl, hR, hb1⟩; obtain ⟨A, cc, rfl⟩ := Kd.R_slice hR) | (go_at_call 133; refine (gronx_zzContains.calls k _ _ _ _ h1.out).mono ?_; rintro e wz ⟨rfl, ⟨nd, rfl⟩⟩; clear h1) | (go_at_call 133; refine (gronx_zzContains.calls k _ _ _ _ h2.out).mono ?_; rintro e wz ⟨rfl, ⟨nd2, rfl⟩⟩; clear h2) | (go_at_call 136; refine (strconv_Atoi.calls _ _ _ _ ha.out).mono ?_; rintro e w2 ⟨rfl, hb2⟩; rw [errW_none]; obtain ⟨ad, rfl, y0, y1⟩ := two_int (Kd.R_reads' hR).2.2 rfl (by omega); have x0 := cell_after (by repeat (first | exact hb2 | exact below_step (by repeat (first | exact Below.refl _ _ | apply pw_below_drewN)) hb2)) y0; rw [g0] at x0; have x1 := cell_after (by repeat (first | exact hb2 | exact below_step (by repeat (first | exact Below.refl _ _ | apply pw_below_drewN)) hb2)) y1; rw [g1] at x1))
  go_ret2
  exact ⟨_, rfl, .inl ⟨rfl, rfl⟩, below_step (by repeat (first | exact hb1 | apply pw_below_drewN)) hb2⟩
set_option maxRecDepth 100000 in
set_option maxHeartbeats 800000 in
theorem offNum_ne (c : Nat) (o : ByteArray) (k : Nat) (val : Int) (t : List Int) (pos : Nat) (s1 : o.toList ≠ ([42] : List UInt8)) (s2 : o.toList ≠ ([63] : List UInt8)) (hb : gronx_boundsByPos.f k (pos : Int) = some t) (ht : t.length = 2) (n : Int) (h1 : gronx_zzContains.f k o ⟨#[47]⟩ = some false) (h2 : gronx_zzContains.f k o ⟨#[45]⟩ = some false) (ha : strconv_Atoi.f o = some (n, none)) (hlo : rd t 0 ≤ n) (hhi : n ≤ rd t 1) (hp : pos ≠ 5) (hv : val ≠ 0) (hn0 : n ≠ 0) (hn : n ≠ val)  : OffC c val pos o false false := by
  intro w
  have hb := Aside0.mk hb
  have q1 : (o.toList == ([42] : List UInt8)) = false := beq_eq_false_iff_ne.mpr s1
  have q2 : (o.toList == ([63] : List UInt8)) = false := beq_eq_false_iff_ne.mpr s2
  have h1 := Aside0.mk h1
  have h2 := Aside0.mk h2
  have ha := Aside0.mk ha
  have qi0 : (0 < t.length) = True := eq_true (by omega)
  have qi1 : (0 < (t.length : Int)) = True := eq_true (by omega)
  have qi2 : (1 < t.length) = True := eq_true (by omega)
  have qi3 : (1 < (t.length : Int)) = True := eq_true (by omega)
  have g0 : ∃ lo, rd t 0 = lo := ⟨_, rfl⟩
  have g1 : ∃ hi, rd t 1 = hi := ⟨_, rfl⟩
  obtain ⟨lo, g0⟩ := g0
  obtain ⟨hi, g1⟩ := g1
  rw [g0] at hlo
  rw [g1] at hhi
  have n4 : ¬ n < lo := by omega
  have n5 : ¬ hi < n := by omega
  have e5 : ((pos : Int) == 5) = false := by simp; omega
  clear hp
  have f1 : (val == 0) = false := by simp [hv]
  have f2 : (n == 0) = false := by simp [hn0]
  have f3 : (n == val) = false := by simp [hn]
  go_enter Tryz.func117, Tryz.ntmps117
  go_wp2_with (first | (go_at_call 132; refine (gronx_boundsByPos.calls k _ _ _ hb.out).mono ?_; rintro e w1 ⟨v0, rfl, hR, hb1⟩; obtain ⟨A, cc, rfl⟩ := Kd.R_slice hR) | (go_at_call 133; refine (gronx_zzContains.calls k _ _ _ _ h1.out).mono ?_; rintro e wz ⟨rfl, ⟨nd, rfl⟩⟩; clear h1) | (go_at_call 133; refine (gronx_zzContains.calls k _ _ _ _ h2.out).mono ?_; rintro e wz ⟨rfl, ⟨nd2, rfl⟩⟩; clear h2) | (go_at_call 136; refine (strconv_Atoi.calls _ _ _ _ ha.out).mono ?_; rintro e w2 ⟨rfl, hb2⟩; rw [errW_none]; obtain ⟨ad, rfl, y0, y1⟩ := two_int (Kd.R_reads' hR).2.2 rfl (by omega); have x0 := cell_after (by repeat (first | exact hb2 | exact below_step (by repeat (first | exact Below.refl _ _ | apply pw_below_drewN)) hb2)) y0; rw [g0] at x0; have x1 := cell_after (by repeat (first | exact hb2 | exact below_step (by repeat (first | exact Below.refl _ _ | apply pw_below_drewN)) hb2)) y1; rw [g1] at x1))
  go_ret2
  exact ⟨_, rfl, .inl ⟨rfl, rfl⟩, below_step (by repeat (first | exact hb1 | apply pw_below_drewN)) hb2⟩
end Go.Proofs.YtemgofomhjabpaaGreatDoor.Core
namespace Go.Proofs.YtemgofomhjabpaaGreatDoor.Core
open Go.RowKit Go.Proofs.YtemgofomhjabpaaGreatDoorW.PrintWords
theorem decN_small (n : Nat) (h : n < 100) : decN n = if n < 10 then [UInt8.ofNat (48 + n)] else [UInt8.ofNat (48 + n / 10), UInt8.ofNat (48 + n % 10)] := by
  split
  · rename_i h1; exact decN_lt n h1
  · rename_i h1; rw [decN_ge n h1, decN_lt (n / 10) (by omega)]; rfl
theorem atoi_table : ∀ n : Fin 100, Lib.atoi (if n.val < 10 then [UInt8.ofNat (48 + n.val)] else [UInt8.ofNat (48 + n.val / 10), UInt8.ofNat (48 + n.val % 10)]) = some (n.val : Int) := by decide +kernel
theorem atoi_two (n : Nat) (h : n < 100) : strconv_Atoi.f (B (decN n)) = some ((n : Int), none) := by
  unfold strconv_Atoi.f
  have hl := decN_length n 1 (by simpa using h)
  rw [B_size, if_pos (by omega), B_data, decN_small n h, atoi_table ⟨n, h⟩]
  rfl
theorem dec_no (n : Nat) (c : UInt8) (hc : c.toNat < 48 ∨ 57 < c.toNat) : c ∉ decN n := fun e => by have := decN_digit n c e; omega
def loB (i : Nat) : Int := if i = 3 ∨ i = 4 then 1 else 0
def hiB (i : Nat) : Int := [59, 59, 23, 31, 12, 7, 9999].getD i 0
theorem bounds_ev (i : Nat) (hi : i ≤ 6) : Ev (fun k => gronx_boundsByPos.f k (i : Int)) [loB i, hiB i] := by
  match i, hi with
  | 0, _ => exact Ev.done fun k => rfl
  | 1, _ => exact Ev.done fun k => rfl
  | 2, _ => exact Ev.done fun k => rfl
  | 3, _ => exact Ev.done fun k => rfl
  | 4, _ => exact Ev.done fun k => rfl
  | 5, _ => exact Ev.done fun k => rfl
  | 6, _ => exact Ev.done fun k => rfl
theorem contains_no (c : UInt8) (l : List UInt8) (h : c ∉ l) (hl : l.length < 4611686018427387904) : Ev (fun k => gronx_zzContains.f k (B l) (B [c])) false := by
  unfold gronx_zzContains.f
  have := zzIndex_ev l [c] (by simp) hl (by simp)
  rw [idxL_one_none c l h 0] at this
  exact Ev.bind this (Ev.const rfl)
theorem contains_yes (c : UInt8) (p r : List UInt8) (h : c ∉ p) (hl : (p ++ c :: r).length < 4611686018427387904) : Ev (fun k => gronx_zzContains.f k (B (p ++ c :: r)) (B [c])) true := by
  unfold gronx_zzContains.f
  have := zzIndex_ev (p ++ c :: r) [c] (by simp) hl (by simp)
  rw [idxL_one_at c p r h 0] at this
  exact Ev.bind this (Ev.const (by rw [decide_eq_true (by omega)]))
theorem idxL_ge (m l : List UInt8) (i : Nat) : idxL m l i = -1 ∨ (i : Int) ≤ idxL m l i := by
  induction l generalizing i with
  | nil => exact Or.inl rfl
  | cons b t ih =>
    unfold idxL
    split
    · split
      · exact Or.inr (Int.le_refl _)
      · rcases ih (i + 1) with h | h
        · exact Or.inl h
        · exact Or.inr (by omega)
    · exact Or.inl rfl
theorem idxL_head (m : List UInt8) (b : UInt8) (t : List UInt8) (h : m.head? ≠ some b) (hm : m ≠ []) : idxL m (b :: t) 0 ≠ 0 := by
  unfold idxL
  split
  · rw [if_neg (fun e => h (by rw [← e]; cases m with | nil => exact absurd rfl hm | cons a s => simp))]
    have := idxL_ge m t 1
    simp only [Nat.zero_add] at *
    omega
  · decide
theorem idxL_starSlash (r : List UInt8) : idxL [42, 47] (42 :: 47 :: r) 0 = 0 := by
  unfold idxL
  rw [if_pos (by simp), if_pos (by simp)]
  rfl
theorem stepRange_ev (val en step : Int) (s0 : 1 ≤ step) (s1 : step ≤ 1000) (e1 : en ≤ 100000) :
    ∀ (d : Nat) (start : Int), (en - start).toNat ≤ d → 0 ≤ start → start ≤ 200000 → Ev (fun k => gronx_inStepRange.l0 k val en step start) (decide (start ≤ val ∧ val ≤ en ∧ (val - start) % step = 0)) := by
  intro d
  induction d with
  | zero =>
    intro start hd h0 h1
    by_cases hs : start ≤ en
    · have he : start = en := by omega
      subst he
      by_cases hv : start ≤ val
      · by_cases hq : start = val
        · subst hq
          refine Ev.step (f := fun k => gronx_inStepRange.j1 k start start step start true) (fun k => ?_) (Ev.done fun k => ?_)
          · simp only [gronx_inStepRange.l0]; rw [if_pos hs, decide_eq_true hv]
          · simp only [gronx_inStepRange.j1]; simp
        · refine Ev.step (f := fun k => gronx_inStepRange.j1 k val start step start true) (fun k => ?_) (Ev.step (f := fun k => gronx_inStepRange.l0 k val start step (start + step)) (fun k => ?_) (Ev.step (f := fun k => gronx_inStepRange.j1 k val start step (start + step) false) (fun k => ?_) (Ev.done fun k => ?_)))
          · simp only [gronx_inStepRange.l0]; rw [if_pos hs, decide_eq_true hv]
          · simp only [gronx_inStepRange.j1]; rw [if_pos trivial, if_neg hq, wrap64_id (by omega) (by omega)]
          · simp only [gronx_inStepRange.l0]; rw [if_neg (by omega)]
          · simp only [gronx_inStepRange.j1]; rw [if_neg (by simp), decide_eq_false (by omega)]
      · refine Ev.step (f := fun k => gronx_inStepRange.j1 k val start step start false) (fun k => ?_) (Ev.done fun k => ?_)
        · simp only [gronx_inStepRange.l0]; rw [if_pos hs, decide_eq_false hv]
        · simp only [gronx_inStepRange.j1]; rw [if_neg (by simp), decide_eq_false (by omega)]
    · refine Ev.step (f := fun k => gronx_inStepRange.j1 k val en step start false) (fun k => ?_) (Ev.done fun k => ?_)
      · simp only [gronx_inStepRange.l0]; rw [if_neg hs]
      · simp only [gronx_inStepRange.j1]; rw [if_neg (by simp), decide_eq_false (by omega)]
  | succ d ih =>
    intro start hd h0 h1
    by_cases hs : start ≤ en
    · by_cases hv : start ≤ val
      · by_cases hq : start = val
        · subst hq
          refine Ev.step (f := fun k => gronx_inStepRange.j1 k start en step start true) (fun k => ?_) (Ev.done fun k => ?_)
          · simp only [gronx_inStepRange.l0]; rw [if_pos hs, decide_eq_true hv]
          · simp only [gronx_inStepRange.j1]; simp [hs]
        · have hrec := ih (start + step) (by omega) (by omega) (by omega)
          have he : decide (start + step ≤ val ∧ val ≤ en ∧ (val - (start + step)) % step = 0) = decide (start ≤ val ∧ val ≤ en ∧ (val - start) % step = 0) := by
            have e1 : (val - (start + step)) % step = (val - start) % step := by
              rw [show val - (start + step) = (val - start) - step by omega, Int.sub_emod_right]
            rw [e1]
            by_cases hz : (val - start) % step = 0
            · have : step ≤ val - start := Int.le_of_dvd (by omega) (Int.dvd_of_emod_eq_zero hz)
              have h2 : start + step ≤ val ↔ start ≤ val := by omega
              simp only [hz, h2]
            · simp [hz]
          rw [he] at hrec
          refine Ev.step (f := fun k => gronx_inStepRange.j1 k val en step start true) (fun k => ?_) (Ev.step (f := fun k => gronx_inStepRange.l0 k val en step (start + step)) (fun k => ?_) hrec)
          · simp only [gronx_inStepRange.l0]; rw [if_pos hs, decide_eq_true hv]
          · simp only [gronx_inStepRange.j1]; rw [if_pos trivial, if_neg hq, wrap64_id (by omega) (by omega)]
      · refine Ev.step (f := fun k => gronx_inStepRange.j1 k val en step start false) (fun k => ?_) (Ev.done fun k => ?_)
        · simp only [gronx_inStepRange.l0]; rw [if_pos hs, decide_eq_false hv]
        · simp only [gronx_inStepRange.j1]; rw [if_neg (by simp), decide_eq_false (by omega)]
    · refine Ev.step (f := fun k => gronx_inStepRange.j1 k val en step start false) (fun k => ?_) (Ev.done fun k => ?_)
      · simp only [gronx_inStepRange.l0]; rw [if_neg hs]
      · simp only [gronx_inStepRange.j1]; rw [if_neg (by simp), decide_eq_false (by omega)]
theorem inStepRange_ev (val start en step : Int) (s0 : 1 ≤ step) (s1 : step ≤ 1000) (e1 : en ≤ 100000) (h0 : 0 ≤ start) (h1 : start ≤ 200000) :
    Ev (fun k => gronx_inStepRange.f k val start en step) (decide (start ≤ val ∧ val ≤ en ∧ (val - start) % step = 0)) := stepRange_ev val en step s0 s1 e1 _ start (Nat.le_refl _) h0 h1
theorem Ev.succ {α : Type} {g : Nat → Option α} {r : α} (h : Ev (fun k => g (k + 1)) r) : Ev g r := Ev.step (fun _ => rfl) h
end Go.Proofs.YtemgofomhjabpaaGreatDoor.Core
namespace Go.Proofs.YtemgofomhjabpaaGreatDoor.Core
open Go.RowKit Go.Proofs.YtemgofomhjabpaaGreatDoorW.PrintWords
theorem dec_head' (n : Nat) (r : List UInt8) : ∃ b t, decN n ++ r = b :: t ∧ 48 ≤ b.toNat ∧ b.toNat ≤ 57 := by
  match h : decN n, decN_ne n with
  | b :: t, _ => exact ⟨b, t ++ r, rfl, decN_digit n b (by rw [h]; simp)⟩
theorem dec_ne' (n : Nat) (r : List UInt8) (c : UInt8) (t : List UInt8) (hc : c.toNat < 48 ∨ 57 < c.toNat) : decN n ++ r ≠ c :: t := by
  obtain ⟨b, s, e, h1, h2⟩ := dec_head' n r
  rw [e]
  intro h
  have := (List.cons.inj h).1
  subst this
  omega
theorem split_two' (c : UInt8) (p q : List UInt8) (hp : c ∉ p) (hq : c ∉ q) (hl : (p ++ c :: q).length < 8796093022208) : Ev (fun k => gronx_zzSplit.f k (B (p ++ c :: q)) (B [c])) [B p, B q] := by
  have := zzSplit_ev c (p ++ c :: q) hl
  rw [splitL_at c p q hp, splitL_none c q hq] at this
  exact this
theorem idx_zero' (a : Nat) (r : List UInt8) : idxL [48, 47] (decN a ++ 45 :: r) 0 ≠ 0 := by
  obtain ⟨d, t, e, h1, h2⟩ := dec_head' a []
  rw [List.append_nil] at e
  rw [e, List.cons_append]
  intro h
  unfold idxL at h
  split at h
  · split at h
    · rename_i h3
      have h4 : (t ++ 45 :: r).head? = some 47 := by
        have : (d :: (t ++ 45 :: r)).take 2 = [48, 47] := h3
        cases hh : t ++ 45 :: r with
        | nil => rw [hh] at this; simp at this
        | cons u v => rw [hh] at this; simp at this; simp [this.2]
      cases t with
      | nil => simp at h4
      | cons u v =>
        have hu : u = 47 := by simpa using h4
        have := decN_digit a u (by rw [e]; simp)
        subst hu
        simp at this
    · have := idxL_ge [48, 47] (t ++ 45 :: r) (0 + 1)
      omega
  · exact absurd h (by decide)
theorem offC_num (c : Nat) (n : Nat) (hn : n < 100) (i : Nat) (hi : i ≤ 6) (val : Int) (lo : loB i ≤ (n : Int)) (hi' : (n : Int) ≤ hiB i) (h5 : i = 5 → n ≤ 6) : OffC c val i (B (decN n)) (decide ((n : Int) = val)) false := by
  have hl := decN_length n 1 (by simpa using hn)
  obtain ⟨K1, hK1⟩ := bounds_ev i hi
  obtain ⟨K2, hK2⟩ := contains_no 47 _ (dec_no n 47 (by decide)) (by omega)
  obtain ⟨K3, hK3⟩ := contains_no 45 _ (dec_no n 45 (by decide)) (by omega)
  have f1 := hK1 (max K1 (max K2 K3)) (by omega)
  have f2 := hK2 (max K1 (max K2 K3)) (by omega)
  have f3 := hK3 (max K1 (max K2 K3)) (by omega)
  have s1 : (B (decN n)).toList ≠ ([42] : List UInt8) := by rw [B_list]; simpa using dec_ne' n [] 42 [] (by decide)
  have s2 : (B (decN n)).toList ≠ ([63] : List UInt8) := by rw [B_list]; simpa using dec_ne' n [] 63 [] (by decide)
  have ha := atoi_two n hn
  by_cases e5 : i = 5
  · by_cases e : (n : Int) = val
    · rw [decide_eq_true e]; exact offNum_wd_eq c _ _ val _ i s1 s2 f1 rfl n f2 f3 ha lo hi' e5 e
    · rw [decide_eq_false e]; exact offNum_wd_ne c _ _ val _ i s1 s2 f1 rfl n f2 f3 ha lo hi' e5 (by have := h5 e5; omega) e
  · by_cases v0 : val = 0
    · by_cases n0 : (n : Int) = 0
      · rw [decide_eq_true (by omega)]; exact offNum_zz c _ _ val _ i s1 s2 f1 rfl n f2 f3 ha lo hi' e5 v0 n0
      · rw [decide_eq_false (by omega)]; exact offNum_zn c _ _ val _ i s1 s2 f1 rfl n f2 f3 ha lo hi' e5 v0 n0
    · by_cases n0 : (n : Int) = 0
      · rw [decide_eq_false (by omega)]; exact offNum_nz c _ _ val _ i s1 s2 f1 rfl n f2 f3 ha lo hi' e5 v0 n0
      · by_cases e : (n : Int) = val
        · rw [decide_eq_true e]; exact offNum_eq c _ _ val _ i s1 s2 f1 rfl n f2 f3 ha lo hi' e5 v0 n0 e
        · rw [decide_eq_false e]; exact offNum_ne c _ _ val _ i s1 s2 f1 rfl n f2 f3 ha lo hi' e5 v0 n0 e
theorem offC_range (c : Nat) (a b : Nat) (hb : b < 100) (hab : a ≤ b) (i : Nat) (hi : i ≤ 6) (val : Int) (lo : loB i ≤ (a : Int)) (hi' : (b : Int) ≤ hiB i) (h5 : i = 5 → b ≤ 6) : OffC c val i (B (decN a ++ 45 :: decN b)) (decide ((a : Int) ≤ val ∧ val ≤ (b : Int))) false := by
  have la := decN_length a 1 (by omega)
  have lb := decN_length b 1 (by omega)
  have hlen : (decN a ++ 45 :: decN b).length ≤ 5 := by simp; omega
  obtain ⟨K1, hK1⟩ := bounds_ev i hi
  obtain ⟨K2, hK2⟩ := contains_no 47 (decN a ++ 45 :: decN b) (by simp [dec_no a 47 (by decide), dec_no b 47 (by decide)]) (by omega)
  obtain ⟨K3, hK3⟩ := contains_yes 45 _ _ (dec_no a 45 (by decide)) (by omega : (decN a ++ 45 :: decN b).length < _)
  obtain ⟨K4, hK4⟩ := split_two' 45 _ _ (dec_no a 45 (by decide)) (dec_no b 45 (by decide)) (by omega : (decN a ++ 45 :: decN b).length < _)
  have f1 := hK1 (max (max K1 K4) (max K2 K3)) (by omega)
  have f2 := hK2 (max (max K1 K4) (max K2 K3)) (by omega)
  have f3 := hK3 (max (max K1 K4) (max K2 K3)) (by omega)
  have f4 := hK4 (max (max K1 K4) (max K2 K3)) (by omega)
  have s1 : (B (decN a ++ 45 :: decN b)).toList ≠ ([42] : List UInt8) := by rw [B_list]; exact dec_ne' a _ 42 [] (by decide)
  have s2 : (B (decN a ++ 45 :: decN b)).toList ≠ ([63] : List UInt8) := by rw [B_list]; exact dec_ne' a _ 63 [] (by decide)
  have a0 := atoi_two a (by omega)
  have b0 := atoi_two b hb
  refine offRange_w c _ _ val [loB i, hiB i] i s1 s2 f1 f2 f3 _ ?_
  by_cases e5 : i = 5
  · have e : ((i : Int) == 5) = true := by simp; omega
    rw [e]
    have b6 := h5 e5
    by_cases hv : (a : Int) ≤ val
    · rw [show decide ((a : Int) ≤ val ∧ val ≤ (b : Int)) = decide (val ≤ (b : Int)) from decide_eq_decide.mpr ⟨fun h => h.2, fun h => ⟨hv, h⟩⟩]
      exact range_in_wd val a b _ _ _ _ f4 rfl a0 b0 rfl (by omega) lo hi' (by omega) hv
    · rw [decide_eq_false (fun h => hv h.1)]
      exact range_out_wd val a b _ _ _ _ f4 rfl a0 b0 rfl (by omega) lo hi' (by omega) hv
  · have e : ((i : Int) == 5) = false := by simp; omega
    rw [e]
    by_cases hv : (a : Int) ≤ val
    · rw [show decide ((a : Int) ≤ val ∧ val ≤ (b : Int)) = decide (val ≤ (b : Int)) from decide_eq_decide.mpr ⟨fun h => h.2, fun h => ⟨hv, h⟩⟩]
      exact range_in val a b _ _ _ _ f4 rfl a0 b0 rfl (by omega) lo hi' hv
    · rw [decide_eq_false (fun h => hv h.1)]
      exact range_out val a b _ _ _ _ f4 rfl a0 b0 rfl (by omega) lo hi' hv
theorem offC_sstep (c : Nat) (s : Nat) (s0 : 1 ≤ s) (s1 : s < 100) (i : Nat) (hi : i ≤ 6) (val : Int) (lo : loB i ≤ val) (hv : val ≤ 10000) : OffC c val i (B (42 :: 47 :: decN s)) (decide ((val - loB i) % (s : Int) = 0)) false := by
  have ls := decN_length s 1 (by simpa using s1)
  have hb : 0 ≤ loB i := by unfold loB; split <;> omega
  have hlen : ([42] ++ 47 :: decN s).length ≤ 5 := by simp; omega
  obtain ⟨K1, hK1⟩ := bounds_ev i hi
  obtain ⟨K2, hK2⟩ := contains_yes 47 [42] (decN s) (by simp) (by omega)
  obtain ⟨K3, hK3⟩ := split_two' 47 [42] (decN s) (by simp) (dec_no s 47 (by decide)) (by omega)
  obtain ⟨K4, hK4⟩ := zzIndex_ev ([42] ++ 47 :: decN s) [42, 47] (by simp) (by omega) (by simp)
  have f1 := hK1 (max (max K1 K4) (max K2 K3)) (by omega)
  have f2 := hK2 (max (max K1 K4) (max K2 K3)) (by omega)
  have f3 := hK3 (max (max K1 K4) (max K2 K3)) (by omega)
  have f4 := hK4 (max (max K1 K4) (max K2 K3)) (by omega)
  rw [show idxL [42, 47] ([42] ++ 47 :: decN s) 0 = 0 from idxL_starSlash _] at f4
  exact offStep_w c _ _ val [loB i, hiB i] i (by rw [B_list]; simp) (by rw [B_list]; simp) f1 f2 _ (sstep_w val s _ _ _ _ _ f3 rfl (atoi_two s s1) (by omega) (by omega) f4 rfl lo (by omega) hb)
theorem offC_rstep (c : Nat) (a b s : Nat) (hb : b < 100) (hab : a ≤ b) (s0 : 1 ≤ s) (s1 : s < 100) (i : Nat) (hi : i ≤ 6) (val : Int) (lo : loB i ≤ (a : Int)) (hi' : (b : Int) ≤ hiB i) (h5 : i = 5 → b ≤ 6) : OffC c val i (B (decN a ++ 45 :: decN b ++ 47 :: decN s)) (decide ((a : Int) ≤ val ∧ val ≤ (b : Int) ∧ (val - a) % (s : Int) = 0)) false := by
  have la := decN_length a 1 (by omega)
  have lb := decN_length b 1 (by omega)
  have ls := decN_length s 1 (by omega)
  have hlen : (decN a ++ 45 :: decN b ++ 47 :: decN s).length ≤ 8 := by simp; omega
  have hlen2 : (decN a ++ 45 :: decN b).length ≤ 8 := by simp; omega
  have hno : (47 : UInt8) ∉ decN a ++ 45 :: decN b := by simp [dec_no a 47 (by decide), dec_no b 47 (by decide)]
  have n1 : idxL [42, 47] (decN a ++ 45 :: decN b ++ 47 :: decN s) 0 ≠ 0 := by
    obtain ⟨d, t, e, h1, h2⟩ := dec_head' a (45 :: decN b ++ 47 :: decN s)
    rw [List.append_assoc, e]
    refine idxL_head _ d t (fun h => ?_) (by simp)
    have : d = 42 := by simpa using h.symm
    subst this; simp at h1
  have n2 : idxL [48, 47] (decN a ++ 45 :: decN b ++ 47 :: decN s) 0 ≠ 0 := by rw [List.append_assoc]; exact idx_zero' a _
  have hg : ∀ v : Int, Ev (fun k => gronx_inStepRange.f k v a b s) (decide ((a : Int) ≤ v ∧ v ≤ (b : Int) ∧ (v - a) % (s : Int) = 0)) := fun v => inStepRange_ev v a b s (by omega) (by omega) (by omega) (by omega) (by omega)
  obtain ⟨K1, hK1⟩ := bounds_ev i hi
  obtain ⟨K2, hK2⟩ := contains_yes 47 (decN a ++ 45 :: decN b) (decN s) hno (by omega)
  obtain ⟨K3, hK3⟩ := split_two' 47 (decN a ++ 45 :: decN b) (decN s) hno (dec_no s 47 (by decide)) (by omega)
  obtain ⟨K4, hK4⟩ := zzIndex_ev (decN a ++ 45 :: decN b ++ 47 :: decN s) [42, 47] (by simp) (by omega) (by simp)
  obtain ⟨K5, hK5⟩ := zzIndex_ev (decN a ++ 45 :: decN b ++ 47 :: decN s) [48, 47] (by simp) (by omega) (by simp)
  obtain ⟨K6, hK6⟩ := split_two' 45 (decN a) (decN b) (dec_no a 45 (by decide)) (dec_no b 45 (by decide)) (by omega)
  obtain ⟨K7, hK7⟩ := hg val
  obtain ⟨K8, hK8⟩ := hg 0
  obtain ⟨K9, hK9⟩ := hg 7
  obtain ⟨K, hK⟩ : ∃ K, K1 ≤ K ∧ K2 ≤ K ∧ K3 ≤ K ∧ K4 ≤ K ∧ K5 ≤ K ∧ K6 ≤ K ∧ K7 ≤ K ∧ K8 ≤ K ∧ K9 ≤ K := ⟨K1 + K2 + K3 + K4 + K5 + K6 + K7 + K8 + K9, by omega⟩
  have f1 := hK1 K (by omega)
  have f2 := hK2 K (by omega)
  have f3 := hK3 K (by omega)
  have f4 := hK4 K (by omega)
  have f5 := hK5 K (by omega)
  have f6 := hK6 K (by omega)
  have f7 := hK7 K (by omega)
  have f8 := hK8 K (by omega)
  have f9 := hK9 K (by omega)
  have a0 := atoi_two a (by omega)
  have b0 := atoi_two b hb
  have s0' := atoi_two s s1
  refine offStep_w c _ K val [loB i, hiB i] i (by rw [B_list, List.append_assoc]; exact dec_ne' a _ 42 [] (by decide)) (by rw [B_list, List.append_assoc]; exact dec_ne' a _ 63 [] (by decide)) f1 f2 _ ?_
  by_cases e5 : i = 5
  · have e : ((i : Int) == 5) = true := by simp; omega
    rw [e]
    have b6 := h5 e5
    by_cases hv : val = 0
    · subst hv
      by_cases hq : (a : Int) ≤ 0 ∧ (0 : Int) ≤ (b : Int) ∧ ((0 : Int) - a) % (s : Int) = 0
      · rw [decide_eq_true hq] at f8 ⊢
        exact rstep_zero_yes s a b _ [loB i, hiB i] K _ _ _ _ f3 rfl s0' (by omega) f4 n1 f5 n2 f6 rfl a0 b0 rfl (by omega) lo hi' (by omega) f8
      · rw [decide_eq_false hq] at f8 ⊢
        rw [decide_eq_false (by omega)] at f9
        exact rstep_zero_no s a b _ [loB i, hiB i] K _ _ _ _ f3 rfl s0' (by omega) f4 n1 f5 n2 f6 rfl a0 b0 rfl (by omega) lo hi' (by omega) _ f8 f9
    · exact rstep_wd val s a b _ [loB i, hiB i] K _ _ _ _ f3 rfl s0' (by omega) f4 n1 f5 n2 f6 rfl a0 b0 rfl (by omega) lo hi' (by omega) hv _ f7
  · have e : ((i : Int) == 5) = false := by simp; omega
    rw [e]
    exact rstep_plain val s a b _ [loB i, hiB i] K _ _ _ _ f3 rfl s0' (by omega) f4 n1 f5 n2 f6 rfl a0 b0 rfl (by omega) lo hi' _ f7
end Go.Proofs.YtemgofomhjabpaaGreatDoor.Core
namespace Go.Proofs.YtemgofomhjabpaaGreatDoor.Core
open Go.RowKit Go.Proofs.YtemgofomhjabpaaGreatDoorW.PrintWords
theorem decInt (n : Int) (h : 0 ≤ n) : ((n.toNat : Nat) : Int) = n := by omega
theorem hiB_ge (i : Nat) (hi : i < 6) : highI i ≤ hiB i ∧ loB i = lowI i ∧ (i = 5 → highI i ≤ 6) := by
  match i, hi with
  | 0, _ | 1, _ | 2, _ | 3, _ | 4, _ | 5, _ => decide
theorem offC_item (c : Nat) (i : Nat) (hi : i < 6) (x : It) (hg : goodItem i x = true) (n : Int) (n0 : lowI i ≤ n) (n1 : n ≤ highI i) :
    OffC c n i (B (itemL x)) (hasIt i x n) false := by
  obtain ⟨s1, s2, hr⟩ := goodItem_spec hg
  obtain ⟨b1, b2, b3⟩ := hiB_ge i hi
  have hlo := lowI_ge i
  have hle := highI_le i
  by_cases h0 : x.f0 = true
  · have e0 : hasIt i x n = decide ((n - lowI i) % x.f3 = 0) := by simp [hasIt, h0, n0, n1]
    by_cases hs : 1 < x.f3
    · have := offC_sstep c x.f3.toNat (by omega) (by omega) i (by omega) n (by omega) (by omega)
      rw [decInt _ (by omega), b2] at this
      rw [e0, show itemL x = 42 :: 47 :: decN x.f3.toNat by simp [itemL, h0, stepL, hs]]
      exact this
    · have h1 : x.f3 = 1 := by omega
      rw [e0, show itemL x = [42] by simp [itemL, h0, stepL, hs], h1, decide_eq_true (by omega)]
      exact offStar_w c n i
  · have h0' : x.f0 = false := by simpa using h0
    obtain ⟨r1, r2, r3, r4, r5⟩ := hr h0'
    have e0 : hasIt i x n = decide (x.f1 ≤ n ∧ n ≤ x.f2 ∧ (n - x.f1) % x.f3 = 0) := by simp [hasIt, h0']
    by_cases hs : 1 < x.f3
    · have := offC_rstep c x.f1.toNat x.f2.toNat x.f3.toNat (by omega) (by omega) (by omega) (by omega) i (by omega) n (by omega) (by omega) (fun h => by have := b3 h; omega)
      rw [decInt _ (by omega), decInt _ (by omega), decInt _ (by omega)] at this
      rw [e0, show itemL x = decN x.f1.toNat ++ 45 :: decN x.f2.toNat ++ 47 :: decN x.f3.toNat by simp [itemL, h0', stepL, hs]]
      exact this
    · have h1 : x.f3 = 1 := by omega
      by_cases hq : x.f1 < x.f2
      · have := offC_range c x.f1.toNat x.f2.toNat (by omega) (by omega) i (by omega) n (by omega) (by omega) (fun h => by have := b3 h; omega)
        rw [decInt _ (by omega), decInt _ (by omega)] at this
        rw [e0, show itemL x = decN x.f1.toNat ++ 45 :: decN x.f2.toNat by simp [itemL, h0', stepL, hs, hq], h1, show decide (x.f1 ≤ n ∧ n ≤ x.f2 ∧ (n - x.f1) % 1 = 0) = decide (x.f1 ≤ n ∧ n ≤ x.f2) by simp [Int.emod_one]]
        exact this
      · have := offC_num c x.f1.toNat (by omega) i (by omega) n (by omega) (by omega) (fun h => by have := b3 h; omega)
        rw [decInt _ (by omega)] at this
        rw [e0, show itemL x = decN x.f1.toNat by simp [itemL, h0', stepL, hs, hq], h1, show decide (x.f1 ≤ n ∧ n ≤ x.f2 ∧ (n - x.f1) % 1 = 0) = decide (x.f1 = n) by simp only [Int.emod_one, and_true]; exact decide_eq_decide.mpr (by omega)]
        exact this
end Go.Proofs.YtemgofomhjabpaaGreatDoor.Core
namespace Go.Proofs.YtemgofomhjabpaaGreatDoor.Core
open Go.RowKit Go.Proofs.YtemgofomhjabpaaGreatDoorW.PrintWords
theorem any_from (l m : List UInt8) (hl : l.length < 4611686018427387904) (hm : m.length < 4611686018427387904) :
    ∀ (rest : List UInt8) (i : Nat), l.drop i = rest → i ≤ l.length → Ev (fun k => gronx_zzContainsAny.l0 k (B l) (B m) (i : Int)) (rest.any fun b => m.contains b) := by
  intro rest
  induction rest with
  | nil =>
    intro i hi hil
    have hlen : l.length ≤ i := List.drop_eq_nil_iff.1 hi
    refine Ev.done fun k => ?_
    simp only [gronx_zzContainsAny.l0, B_size]
    rw [if_neg (by omega)]
    rfl
  | cons b t ih =>
    intro i hi hil
    have hlen : t.length + 1 = l.length - i := by have := congrArg List.length hi; simpa using this.symm
    have hlt : i < l.length := by omega
    have hb : l[i] = b := by
      have := List.drop_eq_getElem_cons hlt
      rw [hi] at this
      exact (List.cons.inj this).1.symm
    have ht : l.drop (i + 1) = t := by rw [← List.drop_drop, hi]; rfl
    have hrec := ih (i + 1) ht (by omega)
    have inner : ∀ (rm : List UInt8) (j : Nat), m.drop j = rm → j ≤ m.length → Ev (fun k => gronx_zzContainsAny.l1 k (B l) (B m) (i : Int) (j : Int)) (rm.contains b || t.any fun b => m.contains b) := by
      intro rm
      induction rm with
      | nil =>
        intro j hj hjl
        have hlen : m.length ≤ j := List.drop_eq_nil_iff.1 hj
        refine Ev.step (f := fun k => gronx_zzContainsAny.l0 k (B l) (B m) ((i + 1 : Nat) : Int)) (fun k => ?_) (by simpa using hrec)
        simp only [gronx_zzContainsAny.l1, B_size]
        rw [if_neg (by omega), wrap64_nat i (by omega)]
      | cons c s ihs =>
        intro j hj hjl
        have hlen : s.length + 1 = m.length - j := by have := congrArg List.length hj; simpa using this.symm
        have hjt : j < m.length := by omega
        have hc : m[j] = c := by
          have := List.drop_eq_getElem_cons hjt
          rw [hj] at this
          exact (List.cons.inj this).1.symm
        have hs : m.drop (j + 1) = s := by rw [← List.drop_drop, hj]; rfl
        have e1 : bt (B l) (i : Int) = (b.toNat : Int) := by rw [bt_B_at l i hlt, hb]
        have e2 : bt (B m) (j : Int) = (c.toNat : Int) := by rw [bt_B_at m j hjt, hc]
        by_cases hbc : b = c
        · refine Ev.done fun k => ?_
          simp only [gronx_zzContainsAny.l1, B_size, e1, e2]
          rw [if_pos (by omega), if_pos (by omega), if_pos (by omega), if_pos (by omega), if_pos (by rw [hbc])]
          simp [hbc]
        · have hne : ¬ ((b.toNat : Int) = (c.toNat : Int)) := fun e => hbc (UInt8.toNat_inj.1 (by omega))
          refine Ev.step (f := fun k => gronx_zzContainsAny.l1 k (B l) (B m) (i : Int) ((j + 1 : Nat) : Int)) (fun k => ?_) (by simpa [hbc] using ihs (j + 1) hs (by omega))
          simp only [gronx_zzContainsAny.l1, B_size, e1, e2]
          rw [if_pos (by omega), if_pos (by omega), if_pos (by omega), if_pos (by omega), if_neg hne, wrap64_nat j (by omega)]
    refine Ev.step (f := fun k => gronx_zzContainsAny.l1 k (B l) (B m) (i : Int) ((0 : Nat) : Int)) (fun k => ?_) (inner m 0 rfl (Nat.zero_le _))
    simp only [gronx_zzContainsAny.l0, B_size]
    rw [if_pos (by omega)]
    rfl
theorem any_ev (l m : List UInt8) (hl : l.length < 4611686018427387904) (hm : m.length < 4611686018427387904) : Ev (fun k => gronx_zzContainsAny.f k (B l) (B m)) (l.any fun b => m.contains b) := any_from l m hl hm l 0 rfl (Nat.zero_le _)
end Go.Proofs.YtemgofomhjabpaaGreatDoor.Core
namespace Go.Proofs.YtemgofomhjabpaaGreatDoor.Core
open Go.RowKit Go.Proofs.YtemgofomhjabpaaGreatDoorW.PrintWords
theorem below_drewNd {w W : World} (h : Below w.heap.size w W) (n : Nat) : Below w.heap.size w (W.drewN n) := below_drewN h n
set_option maxRecDepth 100000 in
set_option maxHeartbeats 800000 in
theorem ck_three (c : Nat) {x y mo d h mi s : Int} (M : Moment' x y mo d h mi s) (seg : ByteArray) (pos : Nat) (hp : pos < 7) (h3 : pos = 3) (k : Nat) (offs : List ByteArray) (hs : gronx_zzSplit.f k seg ⟨#[44]⟩ = some offs) (hn : offs.length < 1000000) (hm : ∀ o ∈ offs, gronx_zzContainsAny.f k o ⟨#[76, 87, 35]⟩ = some false)
    (b er : Bool) (hD : DueL c (posV y mo d h mi s pos) pos offs b er) (w : World) (hc0 : w.cell? ⟨c, 0, none⟩ = some (.int .u64 0)) (hc1 : w.cell? ⟨c, 1, none⟩ = some (.int .i64 x)) (hc2 : w.cell? ⟨c, 2, none⟩ = some (.pointer none)) :
    Calls Tryz.prog 111 #[.pointer (some ⟨c, 0, none⟩), .string seg, .int .i64 (pos : Int)] w fun e w' => ∃ ev, e = .returned (.tuple #[.bool b, ev]) ∧ ErrV er ev ∧ Below w.heap.size w w' := by
  have e3 : ((pos : Int) == 3) = true := by simp; omega
  have e5 : ((pos : Int) == 5) = false := by simp; omega
  clear h3
  have M := Aside0.mk M
  have hs := Aside0.mk hs
  have hD := Aside0.mk hD
  have hp := Aside0.mk hp
  go_enter Tryz.func111, Tryz.ntmps111
  go_wp2_with (go_at_call 112; refine (getRef_w c x _ hc0 hc1 hc2).mono ?_; rintro e w1 ⟨rfl, hb1⟩)
  go_region_held (fun w' => w1.heap.size < w'.heap.size ∧ w'.cell? ⟨w1.heap.size, 0, none⟩ = some (.int .u64 0) ∧ w'.cell? ⟨w1.heap.size, 1, none⟩ = some (.int .i64 x) ∧ w'.cell? ⟨w1.heap.size, 2, none⟩ = some (.pointer none))
    (first | exact SX.below hb2 (by assumption) | exact SX.below hb3 (by assumption) | go_keep | (trace_state; fail)) (first | (go_at_call 114; refine (val_w M.out pos hp.out _).mono ?_; rintro e w2 ⟨rfl, hb2⟩) | (go_at_call 115; refine (location_any x _).mono ?_; rintro e w3 ⟨bl, rfl, hlo, hlu, hb3⟩))
  rename_i hHeld
  clear hHeld
  have HB : Below w.heap.size w w3 := (below_step (below_step (below_drew1 (below_alloc hb1 _)) hb2) hb3)
  have HB := Aside0.mk HB
  clear hb1 hb2 hb3 hlo hlu hc0 hc1 hc2
  go_wp2_with (go_at_call 62; refine (gronx_zzSplit.calls k seg ⟨#[44]⟩ offs _ hs.out).mono ?_; rintro e w4 ⟨v0, rfl, hR, hb4⟩; obtain ⟨A, cc, rfl⟩ := Kd.R_slice hR)
  have HR := Aside0.mk (Kd.R_reads' hR).2.2
  have HB4 := Aside0.mk (below_step HB.out hb4)
  clear hR hb4 HB
  go_loopg [31] offs.length (fun kq v31 w' => ∃ (j : Nat), v31 = .int .i64 (j : Int) ∧ Aside0 (DueL c (posV y mo d h mi s pos) pos (offs.drop j) b er) ∧ Aside0 (kq + j = offs.length) ∧ Aside0 (Below w4.heap.size w4 w'))
  case atStart => exact ⟨0, rfl, hD, ⟨rfl⟩, ⟨by repeat (first | exact Below.refl _ _ | apply below_drew1 | apply pw_below_drewN)⟩⟩
  case round =>
    clear hD
    obtain ⟨j, rfl, HD, HK, HW⟩ := hrel
    by_cases hj : j < offs.length
    · have q : ((j : Int) < (offs.length : Int)) := by omega
      have p0 : 0 ≤ (j : Int) := by omega
      have q0 : decide ((j : Int) < (offs.length : Int)) = true := decide_eq_true q
      obtain ⟨ad, rfl, hx⟩ := Kd.at_string HR.out (j : Int) p0 q
      replace hx := cell_after HW.out hx
      rw [rdOf_nat _ _ hj, Int.toNat_natCast] at hx
      have HD' := HD.out
      rw [List.drop_eq_getElem_cons hj] at HD'
      obtain ⟨b1, e1, hoff, hif⟩ := HD'
      have hmo := Aside0.mk (hm _ (List.getElem_mem hj))
      have hoff := Aside0.mk hoff
      have hif := Aside0.mk hif
      clear HD
      have hb : ∀ W, Below W.heap.size W W := fun W => Below.refl _ _
      cases b1 with
      | true =>
        obtain ⟨rfl, rfl⟩ : b = true ∧ er = e1 := by have := hif.out; simpa using this
        go_wp2_with (first | (go_at_call 116; refine (gronx_zzContainsAny.calls k _ _ false _ hmo.out).mono ?_; rintro e w' ⟨rfl, ⟨nd, rfl⟩⟩) | (go_at_call 117; refine (hoff.out _).mono ?_; rintro e w5 ⟨ev, rfl, hev, hb5⟩))
        go_ret2
        exact ⟨ev, rfl, hev, below_step (below_drewNd (below_step HB4.out HW.out) _) hb5⟩
      | false =>
        cases e1 with
        | true =>
          obtain ⟨rfl, rfl⟩ : b = false ∧ er = true := by have := hif.out; simpa using this
          go_wp2_with (first | (go_at_call 116; refine (gronx_zzContainsAny.calls k _ _ false _ hmo.out).mono ?_; rintro e w' ⟨rfl, ⟨nd, rfl⟩⟩) | (go_at_call 117; refine (hoff.out _).mono ?_; rintro e w5 ⟨ev, rfl, hev, hb5⟩; obtain ⟨te, ve, rfl⟩ := ErrV.err hev))
          go_ret2
          exact ⟨_, rfl, hev, below_step (below_drewNd (below_step HB4.out HW.out) _) hb5⟩
        | false =>
          have hr : DueL c (posV y mo d h mi s pos) pos (offs.drop (j + 1)) b er := by have := hif.out; simpa using this
          have hr := Aside0.mk hr
          go_wp2_with (first | (go_at_call 116; refine (gronx_zzContainsAny.calls k _ _ false _ hmo.out).mono ?_; rintro e w' ⟨rfl, ⟨nd, rfl⟩⟩) | (go_at_call 117; refine (hoff.out _).mono ?_; rintro e w5 ⟨ev, rfl, hev, hb5⟩; obtain rfl := ErrV.nil hev))
          go_roundg (gk - 1)
          case measure => have := HK.out; omega
          case rel => exact ⟨j + 1, by simp, hr, ⟨by have := HK.out; omega⟩, ⟨by repeat (first | exact below_step (below_drewNd HW.out _) hb5 | apply below_drew1 | apply pw_below_drewN)⟩⟩
    · have q0 : decide ((j : Int) < (offs.length : Int)) = false := decide_eq_false (by omega)
      have HD' := HD.out
      rw [List.drop_eq_nil_of_le (by omega)] at HD'
      obtain ⟨rfl, rfl⟩ := HD'
      go_wp2
      go_ret2
      exact ⟨_, rfl, .inl ⟨rfl, rfl⟩, below_step HB4.out HW.out⟩
set_option maxRecDepth 100000 in
set_option maxHeartbeats 800000 in
theorem ck_five (c : Nat) {x y mo d h mi s : Int} (M : Moment' x y mo d h mi s) (seg : ByteArray) (pos : Nat) (hp : pos < 7) (h5 : pos = 5) (k : Nat) (offs : List ByteArray) (hs : gronx_zzSplit.f k seg ⟨#[44]⟩ = some offs) (hn : offs.length < 1000000) (hm : ∀ o ∈ offs, gronx_zzContainsAny.f k o ⟨#[76, 87, 35]⟩ = some false)
    (b er : Bool) (hD : DueL c (posV y mo d h mi s pos) pos offs b er) (w : World) (hc0 : w.cell? ⟨c, 0, none⟩ = some (.int .u64 0)) (hc1 : w.cell? ⟨c, 1, none⟩ = some (.int .i64 x)) (hc2 : w.cell? ⟨c, 2, none⟩ = some (.pointer none)) :
    Calls Tryz.prog 111 #[.pointer (some ⟨c, 0, none⟩), .string seg, .int .i64 (pos : Int)] w fun e w' => ∃ ev, e = .returned (.tuple #[.bool b, ev]) ∧ ErrV er ev ∧ Below w.heap.size w w' := by
  have e3 : ((pos : Int) == 3) = false := by simp; omega
  have e5 : ((pos : Int) == 5) = true := by simp; omega
  clear h5
  have M := Aside0.mk M
  have hs := Aside0.mk hs
  have hD := Aside0.mk hD
  have hp := Aside0.mk hp
  go_enter Tryz.func111, Tryz.ntmps111
  go_wp2_with (go_at_call 112; refine (getRef_w c x _ hc0 hc1 hc2).mono ?_; rintro e w1 ⟨rfl, hb1⟩)
  go_region_held (fun w' => w1.heap.size < w'.heap.size ∧ w'.cell? ⟨w1.heap.size, 0, none⟩ = some (.int .u64 0) ∧ w'.cell? ⟨w1.heap.size, 1, none⟩ = some (.int .i64 x) ∧ w'.cell? ⟨w1.heap.size, 2, none⟩ = some (.pointer none))
    (first | exact SX.below hb2 (by assumption) | exact SX.below hb3 (by assumption) | go_keep | (trace_state; fail)) (first | (go_at_call 114; refine (val_w M.out pos hp.out _).mono ?_; rintro e w2 ⟨rfl, hb2⟩) | (go_at_call 115; refine (location_any x _).mono ?_; rintro e w3 ⟨bl, rfl, hlo, hlu, hb3⟩))
  rename_i hHeld
  clear hHeld
  have HB : Below w.heap.size w w3 := (below_step (below_step (below_drew1 (below_alloc hb1 _)) hb2) hb3)
  have HB := Aside0.mk HB
  clear hb1 hb2 hb3 hlo hlu hc0 hc1 hc2
  go_wp2_with (go_at_call 62; refine (gronx_zzSplit.calls k seg ⟨#[44]⟩ offs _ hs.out).mono ?_; rintro e w4 ⟨v0, rfl, hR, hb4⟩; obtain ⟨A, cc, rfl⟩ := Kd.R_slice hR)
  have HR := Aside0.mk (Kd.R_reads' hR).2.2
  have HB4 := Aside0.mk (below_step HB.out hb4)
  clear hR hb4 HB
  go_loopg [31] offs.length (fun kq v31 w' => ∃ (j : Nat), v31 = .int .i64 (j : Int) ∧ Aside0 (DueL c (posV y mo d h mi s pos) pos (offs.drop j) b er) ∧ Aside0 (kq + j = offs.length) ∧ Aside0 (Below w4.heap.size w4 w'))
  case atStart => exact ⟨0, rfl, hD, ⟨rfl⟩, ⟨by repeat (first | exact Below.refl _ _ | apply below_drew1 | apply pw_below_drewN)⟩⟩
  case round =>
    clear hD
    obtain ⟨j, rfl, HD, HK, HW⟩ := hrel
    by_cases hj : j < offs.length
    · have q : ((j : Int) < (offs.length : Int)) := by omega
      have p0 : 0 ≤ (j : Int) := by omega
      have q0 : decide ((j : Int) < (offs.length : Int)) = true := decide_eq_true q
      obtain ⟨ad, rfl, hx⟩ := Kd.at_string HR.out (j : Int) p0 q
      replace hx := cell_after HW.out hx
      rw [rdOf_nat _ _ hj, Int.toNat_natCast] at hx
      have HD' := HD.out
      rw [List.drop_eq_getElem_cons hj] at HD'
      obtain ⟨b1, e1, hoff, hif⟩ := HD'
      have hmo := Aside0.mk (hm _ (List.getElem_mem hj))
      have hoff := Aside0.mk hoff
      have hif := Aside0.mk hif
      clear HD
      have hb : ∀ W, Below W.heap.size W W := fun W => Below.refl _ _
      cases b1 with
      | true =>
        obtain ⟨rfl, rfl⟩ : b = true ∧ er = e1 := by have := hif.out; simpa using this
        go_wp2_with (first | (go_at_call 116; refine (gronx_zzContainsAny.calls k _ _ false _ hmo.out).mono ?_; rintro e w' ⟨rfl, ⟨nd, rfl⟩⟩) | (go_at_call 117; refine (hoff.out _).mono ?_; rintro e w5 ⟨ev, rfl, hev, hb5⟩))
        go_ret2
        exact ⟨ev, rfl, hev, below_step (below_drewNd (below_step HB4.out HW.out) _) hb5⟩
      | false =>
        cases e1 with
        | true =>
          obtain ⟨rfl, rfl⟩ : b = false ∧ er = true := by have := hif.out; simpa using this
          go_wp2_with (first | (go_at_call 116; refine (gronx_zzContainsAny.calls k _ _ false _ hmo.out).mono ?_; rintro e w' ⟨rfl, ⟨nd, rfl⟩⟩) | (go_at_call 117; refine (hoff.out _).mono ?_; rintro e w5 ⟨ev, rfl, hev, hb5⟩; obtain ⟨te, ve, rfl⟩ := ErrV.err hev))
          go_ret2
          exact ⟨_, rfl, hev, below_step (below_drewNd (below_step HB4.out HW.out) _) hb5⟩
        | false =>
          have hr : DueL c (posV y mo d h mi s pos) pos (offs.drop (j + 1)) b er := by have := hif.out; simpa using this
          have hr := Aside0.mk hr
          go_wp2_with (first | (go_at_call 116; refine (gronx_zzContainsAny.calls k _ _ false _ hmo.out).mono ?_; rintro e w' ⟨rfl, ⟨nd, rfl⟩⟩) | (go_at_call 117; refine (hoff.out _).mono ?_; rintro e w5 ⟨ev, rfl, hev, hb5⟩; obtain rfl := ErrV.nil hev))
          go_roundg (gk - 1)
          case measure => have := HK.out; omega
          case rel => exact ⟨j + 1, by simp, hr, ⟨by have := HK.out; omega⟩, ⟨by repeat (first | exact below_step (below_drewNd HW.out _) hb5 | apply below_drew1 | apply pw_below_drewN)⟩⟩
    · have q0 : decide ((j : Int) < (offs.length : Int)) = false := decide_eq_false (by omega)
      have HD' := HD.out
      rw [List.drop_eq_nil_of_le (by omega)] at HD'
      obtain ⟨rfl, rfl⟩ := HD'
      go_wp2
      go_ret2
      exact ⟨_, rfl, .inl ⟨rfl, rfl⟩, below_step HB4.out HW.out⟩
end Go.Proofs.YtemgofomhjabpaaGreatDoor.Core
namespace Go.Proofs.YtemgofomhjabpaaGreatDoor.Core
open Go.RowKit Go.Proofs.YtemgofomhjabpaaGreatDoorW.PrintWords
def SegA (x : Int) (seg : ByteArray) (pos : Nat) (b er : Bool) : Prop := ∀ (c : Nat) (w : World), w.cell? ⟨c, 0, none⟩ = some (.int .u64 0) → w.cell? ⟨c, 1, none⟩ = some (.int .i64 x) → w.cell? ⟨c, 2, none⟩ = some (.pointer none) →
    Calls Tryz.prog 111 #[.pointer (some ⟨c, 0, none⟩), .string seg, .int .i64 (pos : Int)] w fun e w' => ∃ ev, e = .returned (.tuple #[.bool b, ev]) ∧ ErrV er ev ∧ Below w.heap.size w w'
theorem segA_of {x y mo d h mi s : Int} (M : Moment' x y mo d h mi s) (seg : ByteArray) (pos : Nat) (hp : pos < 7) (k : Nat) (offs : List ByteArray) (hs : gronx_zzSplit.f k seg ⟨#[44]⟩ = some offs) (hn : offs.length < 1000000)
    (hm : pos = 3 ∨ pos = 5 → ∀ o ∈ offs, gronx_zzContainsAny.f k o ⟨#[76, 87, 35]⟩ = some false) (b er : Bool) (hD : ∀ c, DueL c (posV y mo d h mi s pos) pos offs b er) : SegA x seg pos b er := by
  intro c w h0 h1 h2
  by_cases h3 : pos = 3
  · exact ck_three c M seg pos hp h3 k offs hs hn (hm (.inl h3)) b er (hD c) w h0 h1 h2
  · by_cases h5 : pos = 5
    · exact ck_five c M seg pos hp h5 k offs hs hn (hm (.inr h5)) b er (hD c) w h0 h1 h2
    · exact ck_other c M seg pos hp h3 h5 k offs hs hn b er (hD c) w h0 h1 h2
end Go.Proofs.YtemgofomhjabpaaGreatDoor.Core
namespace Go.Proofs.YtemgofomhjabpaaGreatDoor.Core
open Go.RowKit Go.Proofs.YtemgofomhjabpaaGreatDoorW.PrintWords
theorem new_w (w : World) : Calls Tryz.prog 31 #[] w fun e w' => e = .returned (.pointer (some ⟨w.heap.size + 1, 0, none⟩)) ∧ (w.alloc (.cells #[.int .u64 0, .int .i64 0, .pointer none] 94)).alloc (.cells #[.iface 92 (.pointer (some ⟨w.heap.size, 0, none⟩))] 98) = w' := by
  go_enter Tryz.func31, Tryz.ntmps31
  go_wp2
  go_ret
  exact ⟨rfl, rfl⟩
theorem setRef_w (c : Nat) (x : Int) (w : World) (v0 v1 v2 : Value) (h0 : w.cell? ⟨c, 0, none⟩ = some v0) (h1 : w.cell? ⟨c, 1, none⟩ = some v1) (h2 : w.cell? ⟨c, 2, none⟩ = some v2) (f0 : w.frozen? ⟨c, 0, none⟩ = false) (f1 : w.frozen? ⟨c, 1, none⟩ = false) (f2 : w.frozen? ⟨c, 2, none⟩ = false) :
    Calls Tryz.prog 113 #[.pointer (some ⟨c, 0, none⟩), .agg #[.int .u64 0, .int .i64 x, .pointer none]] w fun e w' => e = .returned (.tuple #[]) ∧
      ((((w.alloc (.cells #[.int .u64 0, .int .i64 x, .pointer none] 79)).setCell ⟨c, 0, none⟩ (.int .u64 0)).setCell ⟨c, 1, none⟩ (.int .i64 x)).setCell ⟨c, 2, none⟩ (.pointer none)) = w' := by
  have hc : c < w.heap.size := World.block_lt_of_cell? w ⟨c, 0, none⟩ h0
  have hne : c ≠ w.heap.size := Nat.ne_of_lt hc
  have hne' : w.heap.size ≠ c := Nat.ne_of_gt hc
  go_enter Tryz.func113, Tryz.ntmps113
  go_wp2
  go_end0
  exact ⟨rfl, by go_simp⟩
end Go.Proofs.YtemgofomhjabpaaGreatDoor.Core
namespace Go.Proofs.YtemgofomhjabpaaGreatDoor.Core
open Go.RowKit
theorem nil_setRef (w : World) (C : Addr) : (nilAhead 362 92 (.pointer (some C)) "SetRef").run Tryz.prog w = .ok (some false) w := by kernel_rfl
theorem m_setRef (w : World) (C : Addr) : (method 362 92 (.pointer (some C)) "SetRef").run Tryz.prog w = .ok (113, .pointer (some C)) w := by kernel_rfl
theorem nil_check (w : World) (C : Addr) : (nilAhead 362 92 (.pointer (some C)) "CheckDue").run Tryz.prog w = .ok (some false) w := by kernel_rfl
theorem m_check (w : World) (C : Addr) : (method 362 92 (.pointer (some C)) "CheckDue").run Tryz.prog w = .ok (111, .pointer (some C)) w := by kernel_rfl
end Go.Proofs.YtemgofomhjabpaaGreatDoor.Core
namespace Go.Proofs.YtemgofomhjabpaaGreatDoor.Core
open Go.RowKit Go.Proofs.YtemgofomhjabpaaGreatDoorW.PrintWords
def DueW (G C : Nat) (x : Int) (segs : List ByteArray) (b er : Bool) : Prop := ∀ (W : World) (A : Option Addr) (cc : Nat), W.cell? ⟨G, 0, none⟩ = some (.iface 92 (.pointer (some ⟨C, 0, none⟩))) →
    W.cell? ⟨C, 0, none⟩ = some (.int .u64 0) → W.cell? ⟨C, 1, none⟩ = some (.int .i64 x) → W.cell? ⟨C, 2, none⟩ = some (.pointer none) → Kd.C Kd.string W A segs.length segs → segs.length ≤ cc →
    Calls Tryz.prog 42 #[.pointer (some ⟨G, 0, none⟩), .slice A segs.length cc] W fun e w' => ∃ ev, e = .returned (.tuple #[.bool b, ev]) ∧ ErrV er ev ∧ Below W.heap.size W w'
def SD (G C R : Nat) (x : Int) (w' : World) : Prop := w'.cell? ⟨G, 0, none⟩ = some (.iface 92 (.pointer (some ⟨C, 0, none⟩))) ∧ w'.cell? ⟨R, 0, none⟩ = some (.int .u64 0) ∧ w'.cell? ⟨R, 1, none⟩ = some (.int .i64 x) ∧ w'.cell? ⟨R, 2, none⟩ = some (.pointer none)
theorem SD.set {G C R j : Nat} {x : Int} {w : World} {v : Value} (hCG : C ≠ G) (hCR : C ≠ R) (h : SD G C R x w) : SD G C R x (w.setCell ⟨C, j, none⟩ v) :=
  ⟨(set_other (fun h => hCG (congrArg Addr.block h))).trans h.1, (set_other (fun h => hCR (congrArg Addr.block h))).trans h.2.1, (set_other (fun h => hCR (congrArg Addr.block h))).trans h.2.2.1, (set_other (fun h => hCR (congrArg Addr.block h))).trans h.2.2.2⟩
theorem SD.alloc {G C R : Nat} {x : Int} {w : World} (o : Obj) (h : SD G C R x w) : SD G C R x (w.alloc o) :=
  have hb : Below w.heap.size w (w.alloc o) := (Below.refl _ _).alloc (Nat.le_refl _) o
  ⟨cell_after hb h.1, cell_after hb h.2.1, cell_after hb h.2.2.1, cell_after hb h.2.2.2⟩
theorem set_alloc {w : World} {B C G : Nat} {x : Int} {v0 v1 v2 vg : Value} (hg : w.cell? ⟨G, 0, none⟩ = some vg) (h0 : w.cell? ⟨C, 0, none⟩ = some v0) (h1 : w.cell? ⟨C, 1, none⟩ = some v1) (h2 : w.cell? ⟨C, 2, none⟩ = some v2) (hCG : C ≠ G) (hB : B ≤ C) :
    (((((w.alloc (.cells #[.int .u64 0, .int .i64 x, .pointer none] 79)).setCell ⟨C, 0, none⟩ (.int .u64 0)).setCell ⟨C, 1, none⟩ (.int .i64 x)).setCell ⟨C, 2, none⟩ (.pointer none)).drew).cell? ⟨G, 0, none⟩ = some vg ∧ (((((w.alloc (.cells #[.int .u64 0, .int .i64 x, .pointer none] 79)).setCell ⟨C, 0, none⟩ (.int .u64 0)).setCell ⟨C, 1, none⟩ (.int .i64 x)).setCell ⟨C, 2, none⟩ (.pointer none)).drew).cell? ⟨C, 0, none⟩ = some (.int .u64 0) ∧ (((((w.alloc (.cells #[.int .u64 0, .int .i64 x, .pointer none] 79)).setCell ⟨C, 0, none⟩ (.int .u64 0)).setCell ⟨C, 1, none⟩ (.int .i64 x)).setCell ⟨C, 2, none⟩ (.pointer none)).drew).cell? ⟨C, 1, none⟩ = some (.int .i64 x) ∧ (((((w.alloc (.cells #[.int .u64 0, .int .i64 x, .pointer none] 79)).setCell ⟨C, 0, none⟩ (.int .u64 0)).setCell ⟨C, 1, none⟩ (.int .i64 x)).setCell ⟨C, 2, none⟩ (.pointer none)).drew).cell? ⟨C, 2, none⟩ = some (.pointer none) ∧ Below B w (((((w.alloc (.cells #[.int .u64 0, .int .i64 x, .pointer none] 79)).setCell ⟨C, 0, none⟩ (.int .u64 0)).setCell ⟨C, 1, none⟩ (.int .i64 x)).setCell ⟨C, 2, none⟩ (.pointer none)).drew) ∧ B ≤ (((((w.alloc (.cells #[.int .u64 0, .int .i64 x, .pointer none] 79)).setCell ⟨C, 0, none⟩ (.int .u64 0)).setCell ⟨C, 1, none⟩ (.int .i64 x)).setCell ⟨C, 2, none⟩ (.pointer none)).drew).heap.size := by
  have hCs : C < w.heap.size := World.block_lt_of_cell? w ⟨C, 0, none⟩ h0
  have hb : Below w.heap.size w (w.alloc (.cells #[.int .u64 0, .int .i64 x, .pointer none] 79)) := (Below.refl w.heap.size w).alloc (Nat.le_refl _) _
  obtain ⟨q0, q1, q2⟩ := set3 (a := .int .u64 0) (b := .int .i64 x) (c := .pointer none) (cell_after hb h0) (cell_after hb h1) (cell_after hb h2)
  have q3 := (set_other (v := .pointer none) (b := ⟨G, 0, none⟩) (a := ⟨C, 2, none⟩) (fun h => hCG (congrArg Addr.block h))).trans ((set_other (v := .int .i64 x) (a := ⟨C, 1, none⟩) (fun h => hCG (congrArg Addr.block h))).trans ((set_other (v := .int .u64 0) (a := ⟨C, 0, none⟩) (fun h => hCG (congrArg Addr.block h))).trans (cell_after hb hg)))
  have hBB : Below B w (((((w.alloc (.cells #[.int .u64 0, .int .i64 x, .pointer none] 79)).setCell ⟨C, 0, none⟩ (.int .u64 0)).setCell ⟨C, 1, none⟩ (.int .i64 x)).setCell ⟨C, 2, none⟩ (.pointer none)).drew) := ((((hb.mono (Nat.le_trans hB (Nat.le_of_lt hCs))).setCell hB _).setCell hB _).setCell hB _).drew
  exact ⟨q3, q0, q1, q2, hBB, Nat.le_trans (Nat.le_trans hB (Nat.le_of_lt hCs)) hBB.size⟩
set_option maxRecDepth 100000 in
set_option maxHeartbeats 800000 in
theorem isDue_w (B G C R : Nat) (x : Int) (expr : ByteArray) (k : Nat) (segs : List ByteArray) (hS : gronx_Segments.f k expr = some (segs, none)) (b er : Bool) (hD : DueW G C x segs b er) (w : World) (v0 v1 v2 : Value)
    (hg : w.cell? ⟨G, 0, none⟩ = some (.iface 92 (.pointer (some ⟨C, 0, none⟩)))) (h0 : w.cell? ⟨C, 0, none⟩ = some v0) (h1 : w.cell? ⟨C, 1, none⟩ = some v1) (h2 : w.cell? ⟨C, 2, none⟩ = some v2) (f0 : w.frozen? ⟨C, 0, none⟩ = false) (f1 : w.frozen? ⟨C, 1, none⟩ = false) (f2 : w.frozen? ⟨C, 2, none⟩ = false)
    (r0 : w.cell? ⟨R, 0, none⟩ = some (.int .u64 0)) (r1 : w.cell? ⟨R, 1, none⟩ = some (.int .i64 x)) (r2 : w.cell? ⟨R, 2, none⟩ = some (.pointer none)) (hB : B ≤ C) (hCG : C ≠ G) (hCR : C ≠ R) :
    Calls Tryz.prog 32 #[.pointer (some ⟨G, 0, none⟩), .string expr, .slice (some ⟨R, 0, none⟩) 1 1] w fun e w' => ∃ ev, e = .returned (.tuple #[.bool b, ev]) ∧ ErrV er ev ∧ Below B w w' := by
  have hS := Aside0.mk hS
  have hD := Aside0.mk hD
  have hm1 := nil_setRef
  have hm2 := m_setRef
  go_enter Tryz.func32, Tryz.ntmps32
  go_wp2
  go_region_held (fun w' => w'.cell? ⟨G, 0, none⟩ = some (.iface 92 (.pointer (some ⟨C, 0, none⟩))) ∧ w'.cell? ⟨R, 0, none⟩ = some (.int .u64 0) ∧ w'.cell? ⟨R, 1, none⟩ = some (.int .i64 x) ∧ w'.cell? ⟨R, 2, none⟩ = some (.pointer none))
    (first | exact SD.set hCG hCR (SD.set hCG hCR (SD.set hCG hCR (SD.alloc _ (by assumption)))) | go_keep) (first | (go_at_call 113; refine (setRef_w C x w.drew v0 v1 v2 h0 h1 h2 f0 f1 f2).mono ?_; rintro e w1 ⟨rfl, rfl⟩))
  rename_i hHeld
  clear hHeld
  obtain ⟨hG, c0, c1, c2, HB, hz⟩ := set_alloc (x := x) hg h0 h1 h2 hCG hB
  have HB := Aside0.mk HB
  have hG := Aside0.mk hG
  have c0 := Aside0.mk c0
  have c1 := Aside0.mk c1
  have c2 := Aside0.mk c2
  have hz := Aside0.mk hz
  go_wp2_with (first | (go_at_call 39; refine (gronx_Segments.calls k expr segs none _ hS.out).mono ?_; rintro e w2 ⟨vs, rfl, hR, hb2⟩; obtain ⟨A, cc, rfl⟩ := Kd.R_slice hR; rw [errW_none]) | (go_at_call 42; go_loud (refine (hD.out _ A cc (cell_after hb2 hG.out) (cell_after hb2 c0.out) (cell_after hb2 c1.out) (cell_after hb2 c2.out) (Kd.R_reads' hR).2.2 (Kd.R_reads' hR).2.1).mono ?_; rintro e w3 ⟨ev, rfl, hev, hb3⟩)))
  go_ret2
  exact ⟨ev, rfl, hev, (HB.out.trans (hb2.mono hz.out)).trans (hb3.mono (Nat.le_trans hz.out hb2.size))⟩
end Go.Proofs.YtemgofomhjabpaaGreatDoor.Core
