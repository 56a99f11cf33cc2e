/- Contracts and plain lemmas of this seat (part 3), merged by wip/merge2.py; what is proved stands in the claim's last text. -/
import Derived.Test.YtemgofomhjabpaaGreatDoorCSec1
import Derived.Test.YtemgofomhjabpaaGreatDoorCSec2
import Derived.Lib.Strings
namespace Go.Proofs.YtemgofomhjabpaaGreatDoor.Core
open Go.RowKit Go.Proofs.YtemgofomhjabpaaGreatDoorW.PrintWords Go.Proofs.YtemgofomhjabpaaGreatDoorW.PrintLast Go.Proofs.YtemgofomhjabpaaGreatDoorW.PrintMore
attribute [local go_sem] max2_int min2_int max_two min_two max_three min_three max_four min_four   -- for this text's walks alone
set_option linter.unusedVariables false
set_option linter.unusedSimpArgs false
mutual
def laws_expr.l0 : Nat → List (List (S69)) → Int → Int → List (List (S38)) → Bool → Option ((List (List (S38))) × Bool)
  | 0, _, _, _, _, _ => none
  | k + 1, x13, x14, x15, x107000, x107001 => if x15 < x14 then (if 0 ≤ x15 then (if x15 < (x13.length : Int) then (laws_expr.l1 k (([] : List (S38))) x13 x14 x15 (rd_L3 x13 x15) ((rd_L3 x13 x15).length : Int) 0 x107000 x107001) else (none)) else (none)) else (some (x107000, x107001))
def laws_expr.l1 : Nat → List (S38) → List (List (S69)) → Int → Int → List (S69) → Int → Int → List (List (S38)) → Bool → Option ((List (List (S38))) × Bool)
  | 0, _, _, _, _, _, _, _, _, _ => none
  | k + 1, x6, x13, x14, x15, x20, x21, x22, x107000, x107001 => if x22 < x21 then (if 0 ≤ x22 then (if x22 < (x20.length : Int) then (if x6.length < 4398046511104 then (laws_expr.l1 k (x6 ++ [(⟨(rd_T69 x20 x22).f0, (rd_T69 x20 x22).f1, (rd_T69 x20 x22).f2, (rd_T69 x20 x22).f3⟩ : S38)]) x13 x14 x15 x20 x21 (wrap64 (x22 + 1)) x107000 x107001) else (none)) else (none)) else (none)) else (if x107000.length < 5864062014805 then (laws_expr.l0 k x13 x14 (wrap64 (x15 + 1)) (x107000 ++ [x6]) x107001) else (none))
end
def laws_expr.f (k : Nat) (l0_0 : List (List (S69))) (a0_1 : Bool) : Option ((List (List (S38))) × Bool) := laws_expr.l0 k l0_0 (l0_0.length : Int) 0 ([] : List (List (S38))) a0_1
set_option maxHeartbeats 8000000 in
set_option maxRecDepth 100000 in
theorem laws_expr.calls (k : Nat) (A0_0 : Option Addr) (c0_0 : Nat) (l0_0 : List (List (S69))) (a0_1 : Bool) (r1 : List (List (S38))) (r2 : Bool) (w : World) (hr0_0 : Kd.C (Kd.slice 69 k69) w A0_0 l0_0.length l0_0) (hc0_0 : l0_0.length ≤ c0_0) (h : laws_expr.f k l0_0 a0_1 = some (r1, r2)) :
    Calls Tryz.prog 12 #[.agg #[.slice A0_0 l0_0.length c0_0, .bool a0_1]] w fun e w' => ∃ v0_ : Value, e = .returned (.agg #[v0_, .bool r2]) ∧ Kd.S (Kd.slice 38 k38) 36 w' w.heap.size (fun _ => True) v0_ r1 ∧ Below w.heap.size w w' := by
  have hu24 := Tryz.underlying24
  have hu30 := Tryz.underlying30
  have hu69 := Tryz.underlying69
  have hu38 := Tryz.underlying38
  have HR0_0 := Aside0.mk hr0_0
  have HC0_0 := Aside0.mk hc0_0
  clear hr0_0 hc0_0
  have HB := Aside0.mk (Below.refl w.heap.size w)
  have H : (laws_expr.l0 k l0_0 (l0_0.length : Int) 0 ([] : List (List (S38))) a0_1) = some (r1, r2) := h
  clear h
  have H' := Aside0.mk H
  clear H
  go_enter Tryz.func12, Tryz.ntmps12
  go_wp2_with (first | ((with_reducible refine gate_dst (N := 1) rfl ?_); refine box_event ?hg (N := 1) ?hd (cs := #[.slice A0_0 l0_0.length c0_0, .bool a0_1]) (t := 24) ?hr ?_; (case hd => rfl); (case hg => rfl); (case hr => first | (go_simp; done) | (go_simp; rfl)); intro gb104 hg w2 hbox hb; have n0_ := Aside0.mk (below_step (by repeat (first | (with_reducible first | exact HB.out | apply below_alloc | apply pw_below_drewN | apply below_drew1) | exact HB.out)) hb); have n1_ := Aside0.mk (hbox); have n2_ := Aside0.mk ((by rw [hg]; exact (below_size (by repeat (first | (with_reducible first | exact HB.out | apply below_alloc | apply pw_below_drewN | apply below_drew1) | exact HB.out))) : w.heap.size ≤ gb104)); have n3_ := Aside0.mk ((by rw [hg]; exact (below_size (by repeat (first | (with_reducible first | exact HB.out | apply below_alloc | apply pw_below_drewN | apply below_drew1) | exact HB.out))) : w.heap.size ≤ gb104)); clear HB; have HB := n0_; have BK104 := n1_; have GW104 := n2_; have GE104 := n3_; clear n0_ n1_ n2_ n3_; clear hb hbox hg) | ((with_reducible refine gate_dst (N := 2) rfl ?_); refine box_event ?hg (N := 2) ?hd (cs := #[.slice none 0 0, .bool false]) (t := 30) ?hr ?_; (case hd => rfl); (case hg => rfl); (case hr => first | (go_simp; done) | (go_simp; rfl)); intro gb105 hg w3 hbox hb; have n0_ := Aside0.mk (blk_below (g := gb104) (o := .cells #[.slice A0_0 l0_0.length c0_0, .bool a0_1] 24 (0, 0)) (by (with_reducible repeat (first | refine blk_drewN ?_ _ | refine blk_drew ?_ | refine blk_alloc ?_ _)); exact BK104.out) hb); have n1_ := Aside0.mk (below_step (by repeat (first | (with_reducible first | exact HB.out | apply below_alloc | apply pw_below_drewN | apply below_drew1 | refine below_set ?_ GE104.out) | exact HB.out)) hb); have n2_ := Aside0.mk (hbox); have n3_ := Aside0.mk ((by rw [hg]; exact (below_size (by repeat (first | (with_reducible first | exact HB.out | apply below_alloc | apply pw_below_drewN | apply below_drew1 | refine below_set ?_ GE104.out) | exact HB.out))) : w.heap.size ≤ gb105)); have n4_ := Aside0.mk ((by rw [hg]; exact (below_size (by repeat (first | (with_reducible first | exact HB.out | apply below_alloc | apply pw_below_drewN | apply below_drew1 | refine below_set ?_ GE104.out) | exact HB.out))) : w.heap.size ≤ gb105)); have n5_ := Aside0.mk ((by rw [hg]; exact Nat.ne_of_lt (blk_lt (g := gb104) (o := .cells #[.slice A0_0 l0_0.length c0_0, .bool a0_1] 24 (0, 0)) (by (with_reducible repeat (first | refine blk_drewN ?_ _ | refine blk_drew ?_ | refine blk_alloc ?_ _)); exact BK104.out)) : gb104 ≠ gb105)); have n6_ := Aside0.mk ((by rw [hg]; exact Nat.ne_of_gt (blk_lt (g := gb104) (o := .cells #[.slice A0_0 l0_0.length c0_0, .bool a0_1] 24 (0, 0)) (by (with_reducible repeat (first | refine blk_drewN ?_ _ | refine blk_drew ?_ | refine blk_alloc ?_ _)); exact BK104.out)) : gb105 ≠ gb104)); clear BK104; clear HB; have BK104 := n0_; have HB := n1_; have BK105 := n2_; have GW105 := n3_; have GE105 := n4_; have NB104_105 := n5_; have NB105_104 := n6_; clear n0_ n1_ n2_ n3_ n4_ n5_ n6_; clear hb hbox hg; have hnb4 := NB104_105.out; have hnc4 := NB105_104.out; have hcz5_0 : w3.cell? ⟨gb104, 0, none⟩ = some (.slice A0_0 l0_0.length c0_0) := (blk_cell BK104.out 0).trans rfl; have hcz5_1 : w3.cell? ⟨gb104, 1, none⟩ = some (.bool a0_1) := (blk_cell BK104.out 1).trans rfl; have hfz5_0 := blk_frozen BK104.out 0; have hfz5_1 := blk_frozen BK104.out 1) | ((with_reducible refine gate_dst (N := 3) rfl ?_); refine box_event ?hg (N := 3) ?hd (cs := #[.slice none 0 0, .bool false]) (t := 30) ?hr ?_; (case hd => rfl); (case hg => rfl); (case hr => first | (go_simp; done) | (go_simp; rfl)); intro gb106 hg w6 hbox hb; have n0_ := Aside0.mk (blk_below (g := gb104) (o := .cells #[.slice A0_0 l0_0.length c0_0, .bool a0_1] 24 (0, 0)) (by (with_reducible repeat (first | refine blk_drewN ?_ _ | refine blk_drew ?_ | refine blk_alloc ?_ _)); exact BK104.out) hb); have n1_ := Aside0.mk (blk_below (g := gb105) (o := .cells #[.slice none 0 0, .bool false] 30 (0, 0)) (by (with_reducible repeat (first | refine blk_drewN ?_ _ | refine blk_drew ?_ | refine blk_alloc ?_ _)); exact BK105.out) hb); have n2_ := Aside0.mk (below_step (by repeat (first | (with_reducible first | exact HB.out | apply below_alloc | apply pw_below_drewN | apply below_drew1 | refine below_set ?_ GE104.out | refine below_set ?_ GE105.out) | exact HB.out)) hb); have n3_ := Aside0.mk (hbox); have n4_ := Aside0.mk ((by rw [hg]; exact (below_size (by repeat (first | (with_reducible first | exact HB.out | apply below_alloc | apply pw_below_drewN | apply below_drew1 | refine below_set ?_ GE104.out | refine below_set ?_ GE105.out) | exact HB.out))) : w.heap.size ≤ gb106)); have n5_ := Aside0.mk ((by rw [hg]; exact (below_size (by repeat (first | (with_reducible first | exact HB.out | apply below_alloc | apply pw_below_drewN | apply below_drew1 | refine below_set ?_ GE104.out | refine below_set ?_ GE105.out) | exact HB.out))) : w.heap.size ≤ gb106)); have n6_ := Aside0.mk ((by rw [hg]; exact Nat.ne_of_lt (blk_lt (g := gb104) (o := .cells #[.slice A0_0 l0_0.length c0_0, .bool a0_1] 24 (0, 0)) (by (with_reducible repeat (first | refine blk_drewN ?_ _ | refine blk_drew ?_ | refine blk_alloc ?_ _)); exact BK104.out)) : gb104 ≠ gb106)); have n7_ := Aside0.mk ((by rw [hg]; exact Nat.ne_of_gt (blk_lt (g := gb104) (o := .cells #[.slice A0_0 l0_0.length c0_0, .bool a0_1] 24 (0, 0)) (by (with_reducible repeat (first | refine blk_drewN ?_ _ | refine blk_drew ?_ | refine blk_alloc ?_ _)); exact BK104.out)) : gb106 ≠ gb104)); have n8_ := Aside0.mk ((by rw [hg]; exact Nat.ne_of_lt (blk_lt (g := gb105) (o := .cells #[.slice none 0 0, .bool false] 30 (0, 0)) (by (with_reducible repeat (first | refine blk_drewN ?_ _ | refine blk_drew ?_ | refine blk_alloc ?_ _)); exact BK105.out)) : gb105 ≠ gb106)); have n9_ := Aside0.mk ((by rw [hg]; exact Nat.ne_of_gt (blk_lt (g := gb105) (o := .cells #[.slice none 0 0, .bool false] 30 (0, 0)) (by (with_reducible repeat (first | refine blk_drewN ?_ _ | refine blk_drew ?_ | refine blk_alloc ?_ _)); exact BK105.out)) : gb106 ≠ gb105)); clear BK104; clear BK105; clear HB; have BK104 := n0_; have BK105 := n1_; have HB := n2_; have BK106 := n3_; have GW106 := n4_; have GE106 := n5_; have NB104_106 := n6_; have NB106_104 := n7_; have NB105_106 := n8_; have NB106_105 := n9_; clear n0_ n1_ n2_ n3_ n4_ n5_ n6_ n7_ n8_ n9_; clear hb hbox hg; have hnb7 := NB106_104.out; have hnc7 := NB104_106.out; have hnb8 := NB106_105.out; have hnc8 := NB105_106.out; have hcz9_0 : w6.cell? ⟨gb106, 0, none⟩ = some (.slice none 0 0) := (blk_cell BK106.out 0).trans rfl; have hcz9_1 : w6.cell? ⟨gb106, 1, none⟩ = some (.bool false) := (blk_cell BK106.out 1).trans rfl; have hfz9_0 := blk_frozen BK106.out 0; have hfz9_1 := blk_frozen BK106.out 1; have hcz10_0 : w6.cell? ⟨gb104, 0, none⟩ = some (.slice A0_0 l0_0.length c0_0) := (blk_cell BK104.out 0).trans rfl; have hcz10_1 : w6.cell? ⟨gb104, 1, none⟩ = some (.bool a0_1) := (blk_cell BK104.out 1).trans rfl; have hfz10_0 := blk_frozen BK104.out 0; have hfz10_1 := blk_frozen BK104.out 1))
  go_loopg [15] k (fun kq v15 w' => ∃ (x15_1 : Int) (x107000_1 : List (List (S38))) (u107000 : Value), v15 = .int .i64 x15_1 ∧ Aside0 (laws_expr.l0 kq l0_0 (l0_0.length : Int) x15_1 x107000_1 a0_1 = some (r1, r2)) ∧ Aside0 (kq ≤ k) ∧ Aside0 (Kd.S (Kd.slice 38 k38) 36 w' w.heap.size (fun _ => True) u107000 x107000_1) ∧ Aside0 (w'.heap[gb104]? = some (.cells #[(.slice A0_0 l0_0.length c0_0), .bool a0_1] 24 (0, 0))) ∧ Aside0 (w'.heap[gb105]? = some (.cells #[(.slice none 0 0), .bool false] 30 (0, 0))) ∧ Aside0 (w'.heap[gb106]? = some (.cells #[u107000, .bool a0_1] 30 (0, 0))) ∧ Aside0 (Below w.heap.size w w'))
  case atStart => exact ⟨(0), (([] : List (List (S38)))), (.slice none 0 0), (by first | rfl | (simp; done) | (simp [*]; done)), H', ⟨Nat.le_refl _⟩, ⟨by first | exact Kd.S_nil _ _ _ _ _ | exact Kd.N_nil _ _ _ _ _ | exact Kd.V_nil _ _ _ _ _ | exact Kd.Q_nil _ _ _ _ _ | exact Kd.R_nil _ _ _ _ _⟩, ⟨by (with_reducible repeat (first | refine blk_drewN ?_ _ | refine blk_drew ?_ | refine blk_alloc ?_ _)); refine blk_far ?_ NB104_106.out _; (with_reducible repeat (first | refine blk_drewN ?_ _ | refine blk_drew ?_ | refine blk_alloc ?_ _)); refine blk_far ?_ NB104_106.out _; (with_reducible repeat (first | refine blk_drewN ?_ _ | refine blk_drew ?_ | refine blk_alloc ?_ _)); exact BK104.out⟩, ⟨by (with_reducible repeat (first | refine blk_drewN ?_ _ | refine blk_drew ?_ | refine blk_alloc ?_ _)); refine blk_far ?_ NB105_106.out _; (with_reducible repeat (first | refine blk_drewN ?_ _ | refine blk_drew ?_ | refine blk_alloc ?_ _)); refine blk_far ?_ NB105_106.out _; (with_reducible repeat (first | refine blk_drewN ?_ _ | refine blk_drew ?_ | refine blk_alloc ?_ _)); exact BK105.out⟩, ⟨by (with_reducible repeat (first | refine blk_drewN ?_ _ | refine blk_drew ?_ | refine blk_alloc ?_ _)); refine blk_put (cs := #[.slice none 0 0, .bool false]) ?_ 1 _ rfl; (with_reducible repeat (first | refine blk_drewN ?_ _ | refine blk_drew ?_ | refine blk_alloc ?_ _)); refine blk_put (cs := #[.slice none 0 0, .bool false]) ?_ 0 _ rfl; (with_reducible repeat (first | refine blk_drewN ?_ _ | refine blk_drew ?_ | refine blk_alloc ?_ _)); exact BK106.out⟩, ⟨by repeat (first | (with_reducible first | exact HB.out | apply below_alloc | apply pw_below_drewN | apply below_drew1 | refine below_set ?_ GE104.out | refine below_set ?_ GE105.out | refine below_set ?_ GE106.out) | exact HB.out)⟩⟩
  case round =>
    clear H'
    try clear c1
    try clear p2
    try clear c4
    try clear c7
    try clear c8
    try clear hcz10_0
    try clear hcz10_1
    try clear hcz5_0
    try clear hcz5_1
    try clear hcz9_0
    try clear hcz9_1
    try clear hfz10_0
    try clear hfz10_1
    try clear hfz5_0
    try clear hfz5_1
    try clear hfz9_0
    try clear hfz9_1
    obtain ⟨x15_1, x107000_1, u107000, rfl, HA, HK1, HO_107000, BK104, BK105, BK106, HB⟩ := hrel
    cases gk with
    | zero => exact absurd HA.out (by simp [laws_expr.l0])
    | succ k1 =>
      have H := HA.out
      clear HA
      simp only [laws_expr.l0] at H
      by_cases c11 : x15_1 < (l0_0.length : Int)
      · rw [if_pos c11] at H
        have c11b0 : decide (x15_1 < (l0_0.length : Int)) = true := decide_eq_true c11
        clear c11
        by_cases c12 : 0 ≤ x15_1
        · rw [if_pos c12] at H
          have c12b0 : decide (0 ≤ x15_1) = true := decide_eq_true c12
          clear c12
          by_cases c13 : x15_1 < (l0_0.length : Int)
          · rw [if_pos c13] at H
            have c13b0 : decide (x15_1 < (l0_0.length : Int)) = true := decide_eq_true c13
            clear c13
            obtain ⟨y108, hy108⟩ : ∃ y_ : List (S38), y_ = (([] : List (S38))) := ⟨_, rfl⟩
            replace H : (laws_expr.l1 k1 y108 l0_0 (l0_0.length : Int) x15_1 (rd_L3 l0_0 x15_1) ((rd_L3 l0_0 x15_1).length : Int) 0 x107000_1 a0_1) = some (r1, r2) := by first | (rw [hy108]; with_reducible exact H) | (have H2_ := (Option.bind_some _ _).symm.trans H; rw [hy108]; with_reducible exact H2_) | (have H2_ := (Option.bind_some _ _).symm.trans H; with_reducible exact H2_) | with_reducible exact H | (rw [hy108]; exact H) | exact H
            have Ny108 := Aside0.mk hy108
            clear hy108
            have H' := Aside0.mk H
            clear H
            have p107 : 0 ≤ (x15_1 : Int) := of_decide_eq_true (by first | (with_reducible assumption) | assumption)
            have q107 : x15_1 < (l0_0.length : Int) := of_decide_eq_true (by first | (with_reducible assumption) | assumption)
            obtain ⟨ad107, A107_0, c107_0, e107, hx107_0, hl107_0, hi107_0⟩ := at_L3 HR0_0.out x15_1 p107 q107
            cases e107
            replace hx107_0 := (HB.out.cell (World.block_lt_of_cell? w _ hx107_0)).trans hx107_0
            have HR107_0 := Aside0.mk hi107_0
            have HC107_0 := Aside0.mk hl107_0
            clear hi107_0 hl107_0
            replace p107 := eq_true p107
            replace q107 := eq_true q107
            go_wp2_with (first | ((with_reducible refine gate_dst (N := 19) rfl ?_); refine Kd.R_lit k38 _ 38 ?hg (N := 19) ?hd (xs := ([] : List (S38))) (inner := []) (ok := fun _ => True) (okp := fun _ => True) ?hr ?hp (fun _ hk => hk) trivial (Below.refl _ _) (Nat.le_refl _) (by simp) ?_; (case hd => rfl); (case hg => rfl); (case hr => first | (go_simp; done) | (go_simp; rfl)); (case hp => exact (Reps.none _ _)); intro v109 w14 ho15 hb hg_ hnew_; clear hg_ hnew_; (first | rw [← Ny108.out] at ho15 | (simp only [Int.reduceToNat] at ho15; rw [← Ny108.out] at ho15)); have n0_ := Aside0.mk (Kd.S_elder' (by (with_reducible repeat (first | apply Kd.S_alloc | apply Kd.S_drewN | apply Kd.S_drew)); exact HO_107000.out) (Kd.R_base ho15) hb); have n1_ := Aside0.mk (Kd.R_lower ho15 (below_size (by repeat (first | (with_reducible first | exact HB.out | apply below_alloc | apply pw_below_drewN | apply below_drew1 | refine below_set ?_ GE104.out | refine below_set ?_ GE105.out | refine below_set ?_ GE106.out) | exact HB.out)))); have n2_ := Aside0.mk (blk_below (g := gb104) (o := .cells #[.slice (some ad107) l0_0.length c0_0, .bool a0_1] 24 (0, 0)) (by (with_reducible repeat (first | refine blk_drewN ?_ _ | refine blk_drew ?_ | refine blk_alloc ?_ _)); exact BK104.out) hb); have n3_ := Aside0.mk (blk_below (g := gb105) (o := .cells #[.slice none 0 0, .bool false] 30 (0, 0)) (by (with_reducible repeat (first | refine blk_drewN ?_ _ | refine blk_drew ?_ | refine blk_alloc ?_ _)); exact BK105.out) hb); have n4_ := Aside0.mk (blk_below (g := gb106) (o := .cells #[u107000, .bool a0_1] 30 (0, 0)) (by (with_reducible repeat (first | refine blk_drewN ?_ _ | refine blk_drew ?_ | refine blk_alloc ?_ _)); exact BK106.out) hb); have n5_ := Aside0.mk (below_step (by repeat (first | (with_reducible first | exact HB.out | apply below_alloc | apply pw_below_drewN | apply below_drew1 | refine below_set ?_ GE104.out | refine below_set ?_ GE105.out | refine below_set ?_ GE106.out) | exact HB.out)) hb); clear HO_107000; clear BK104; clear BK105; clear BK106; clear HB; have HO_107000 := n0_; have HO110 := n1_; have BK104 := n2_; have BK105 := n3_; have BK106 := n4_; have HB := n5_; clear n0_ n1_ n2_ n3_ n4_ n5_; clear hb ho15))
            go_loopg [6, 22] k1 (fun kq v6 v22 w' => ∃ (x6_2 : List (S38)) (x22_2 : Int), v22 = .int .i64 x22_2 ∧ Aside0 (laws_expr.l1 kq x6_2 l0_0 (l0_0.length : Int) x15_1 (rd_L3 l0_0 x15_1) ((rd_L3 l0_0 x15_1).length : Int) x22_2 x107000_1 a0_1 = some (r1, r2)) ∧ Aside0 (kq ≤ k1) ∧ Aside0 (Kd.R k38 38 w' w.heap.size (fun _ => True) v6 x6_2) ∧ Aside0 (Kd.S (Kd.slice 38 k38) 36 w' w.heap.size (fun k_ => some k_ ≠ (v6 : Value).ownBlock) u107000 x107000_1) ∧ Aside0 (w'.heap[gb104]? = some (.cells #[(.slice (some ad107) l0_0.length c0_0), .bool a0_1] 24 (0, 0))) ∧ Aside0 (w'.heap[gb105]? = some (.cells #[(.slice none 0 0), .bool false] 30 (0, 0))) ∧ Aside0 (w'.heap[gb106]? = some (.cells #[u107000, .bool a0_1] 30 (0, 0))) ∧ Aside0 (Below w.heap.size w w'))
            case atStart => exact ⟨(y108), (0), (by first | rfl | (simp; done) | (simp [*]; done)), H', ⟨Nat.le_refl _⟩, ⟨by (with_reducible repeat (first | apply Kd.R_alloc | apply Kd.R_drewN | apply Kd.R_drew)); exact HO110.out⟩, ⟨by (with_reducible repeat (first | apply Kd.S_alloc | apply Kd.S_drewN | apply Kd.S_drew)); exact Kd.S_mono HO_107000.out (fun _ hk => hk.2)⟩, ⟨by (with_reducible repeat (first | refine blk_drewN ?_ _ | refine blk_drew ?_ | refine blk_alloc ?_ _)); exact BK104.out⟩, ⟨by (with_reducible repeat (first | refine blk_drewN ?_ _ | refine blk_drew ?_ | refine blk_alloc ?_ _)); exact BK105.out⟩, ⟨by (with_reducible repeat (first | refine blk_drewN ?_ _ | refine blk_drew ?_ | refine blk_alloc ?_ _)); exact BK106.out⟩, ⟨by repeat (first | (with_reducible first | exact HB.out | apply below_alloc | apply pw_below_drewN | apply below_drew1 | refine below_set ?_ GE104.out | refine below_set ?_ GE105.out | refine below_set ?_ GE106.out) | exact HB.out)⟩⟩
            case round =>
              clear H'
              try clear c1
              try clear p1
              try clear q1
              try clear hx1
              try clear p2
              try clear c4
              try clear c7
              try clear c8
              try clear c10
              try clear p10
              try clear q10
              try clear hx10
              try clear c11
              try clear c11b0
              try clear c12
              try clear c12b0
              try clear c13
              try clear c13b0
              try clear hcz10_0
              try clear hcz10_1
              try clear hcz5_0
              try clear hcz5_1
              try clear hcz9_0
              try clear hcz9_1
              try clear hfz10_0
              try clear hfz10_1
              try clear hfz5_0
              try clear hfz5_1
              try clear hfz9_0
              try clear hfz9_1
              try clear hx107_0
              try clear p107
              try clear p2
              try clear q107
              obtain ⟨x6_2, x22_2, rfl, HA, HK2, HO_6, HO_107000, BK104, BK105, BK106, HB⟩ := hrel
              cases gk with
              | zero => exact absurd HA.out (by simp [laws_expr.l1])
              | succ k2 =>
                have H := HA.out
                clear HA
                simp only [laws_expr.l1] at H
                by_cases c16 : x22_2 < ((rd_L3 l0_0 x15_1).length : Int)
                · rw [if_pos c16] at H
                  have c16b0 : decide (x22_2 < ((rd_L3 l0_0 x15_1).length : Int)) = true := decide_eq_true c16
                  clear c16
                  by_cases c17 : 0 ≤ x22_2
                  · rw [if_pos c17] at H
                    have c17b0 : decide (0 ≤ x22_2) = true := decide_eq_true c17
                    clear c17
                    by_cases c18 : x22_2 < ((rd_L3 l0_0 x15_1).length : Int)
                    · rw [if_pos c18] at H
                      have c18b0 : decide (x22_2 < ((rd_L3 l0_0 x15_1).length : Int)) = true := decide_eq_true c18
                      clear c18
                      by_cases c19 : x6_2.length < 4398046511104
                      · rw [if_pos c19] at H
                        have LMc19 := Aside0.mk c19
                        clear c19
                        obtain ⟨y113, hy113⟩ : ∃ y_ : List (S38), y_ = (x6_2 ++ [(⟨(rd_T69 (rd_L3 l0_0 x15_1) x22_2).f0, (rd_T69 (rd_L3 l0_0 x15_1) x22_2).f1, (rd_T69 (rd_L3 l0_0 x15_1) x22_2).f2, (rd_T69 (rd_L3 l0_0 x15_1) x22_2).f3⟩ : S38)]) := ⟨_, rfl⟩
                        replace H : (laws_expr.l1 k2 y113 l0_0 (l0_0.length : Int) x15_1 (rd_L3 l0_0 x15_1) ((rd_L3 l0_0 x15_1).length : Int) (wrap64 (x22_2 + 1)) x107000_1 a0_1) = some (r1, r2) := by first | (rw [hy113]; with_reducible exact H) | (have H2_ := (Option.bind_some _ _).symm.trans H; rw [hy113]; with_reducible exact H2_) | (have H2_ := (Option.bind_some _ _).symm.trans H; with_reducible exact H2_) | with_reducible exact H | (rw [hy113]; exact H) | exact H
                        have Ny113 := Aside0.mk hy113
                        clear hy113
                        have H' := Aside0.mk H
                        clear H
                        have p111 : 0 ≤ (x22_2 : Int) := of_decide_eq_true (by first | (with_reducible assumption) | assumption)
                        have q111 : x22_2 < ((rd_L3 l0_0 x15_1).length : Int) := of_decide_eq_true (by first | (with_reducible assumption) | assumption)
                        obtain ⟨ad111, e111, hx111_0, hx111_1, hx111_2, hx111_3⟩ := at_T69 HR107_0.out x22_2 p111 q111
                        cases e111
                        replace hx111_0 := (HB.out.cell (World.block_lt_of_cell? w _ hx111_0)).trans hx111_0
                        replace hx111_1 := (HB.out.cell (World.block_lt_of_cell? w _ hx111_1)).trans hx111_1
                        replace hx111_2 := (HB.out.cell (World.block_lt_of_cell? w _ hx111_2)).trans hx111_2
                        replace hx111_3 := (HB.out.cell (World.block_lt_of_cell? w _ hx111_3)).trans hx111_3
                        replace p111 := eq_true p111
                        replace q111 := eq_true q111
                        go_wp2_with (first | ((with_reducible refine gate_dst (N := 8) rfl ?_); refine box_event ?hg (N := 8) ?hd (cs := #[.bool false, .int .i64 0, .int .i64 0, .int .i64 0]) (t := 69) ?hr ?_; (case hd => rfl); (case hg => rfl); (case hr => first | (go_simp; done) | (go_simp; rfl)); intro gb112 hg w20 hbox hb; have n0_ := Aside0.mk (Kd.R_below (by (with_reducible repeat (first | apply Kd.R_alloc | apply Kd.R_drewN | apply Kd.R_drew)); exact HO_6.out) hb); have n1_ := Aside0.mk (Kd.S_below (by (with_reducible repeat (first | apply Kd.S_alloc | apply Kd.S_drewN | apply Kd.S_drew)); exact HO_107000.out) hb); have n2_ := Aside0.mk (blk_below (g := gb104) (o := .cells #[.slice (some ad107) l0_0.length c0_0, .bool a0_1] 24 (0, 0)) (by (with_reducible repeat (first | refine blk_drewN ?_ _ | refine blk_drew ?_ | refine blk_alloc ?_ _)); exact BK104.out) hb); have n3_ := Aside0.mk (blk_below (g := gb105) (o := .cells #[.slice none 0 0, .bool false] 30 (0, 0)) (by (with_reducible repeat (first | refine blk_drewN ?_ _ | refine blk_drew ?_ | refine blk_alloc ?_ _)); exact BK105.out) hb); have n4_ := Aside0.mk (blk_below (g := gb106) (o := .cells #[u107000, .bool a0_1] 30 (0, 0)) (by (with_reducible repeat (first | refine blk_drewN ?_ _ | refine blk_drew ?_ | refine blk_alloc ?_ _)); exact BK106.out) hb); have n5_ := Aside0.mk (below_step (by repeat (first | (with_reducible first | exact HB.out | apply below_alloc | apply pw_below_drewN | apply below_drew1 | refine below_set ?_ GE104.out | refine below_set ?_ GE105.out | refine below_set ?_ GE106.out) | exact HB.out)) hb); have n6_ := Aside0.mk (hbox); have n7_ := Aside0.mk ((by rw [hg]; exact (below_size (by repeat (first | (with_reducible first | exact HB.out | apply below_alloc | apply pw_below_drewN | apply below_drew1 | refine below_set ?_ GE104.out | refine below_set ?_ GE105.out | refine below_set ?_ GE106.out) | exact HB.out))) : w.heap.size ≤ gb112)); have n8_ := Aside0.mk ((by rw [hg]; exact (below_size (by repeat (first | (with_reducible first | exact HB.out | apply below_alloc | apply pw_below_drewN | apply below_drew1 | refine below_set ?_ GE104.out | refine below_set ?_ GE105.out | refine below_set ?_ GE106.out) | exact HB.out))) : w.heap.size ≤ gb112)); have n9_ := Aside0.mk ((by rw [hg]; exact Nat.ne_of_lt (blk_lt (g := gb104) (o := .cells #[.slice (some ad107) l0_0.length c0_0, .bool a0_1] 24 (0, 0)) (by (with_reducible repeat (first | refine blk_drewN ?_ _ | refine blk_drew ?_ | refine blk_alloc ?_ _)); exact BK104.out)) : gb104 ≠ gb112)); have n10_ := Aside0.mk ((by rw [hg]; exact Nat.ne_of_gt (blk_lt (g := gb104) (o := .cells #[.slice (some ad107) l0_0.length c0_0, .bool a0_1] 24 (0, 0)) (by (with_reducible repeat (first | refine blk_drewN ?_ _ | refine blk_drew ?_ | refine blk_alloc ?_ _)); exact BK104.out)) : gb112 ≠ gb104)); have n11_ := Aside0.mk ((by rw [hg]; exact Nat.ne_of_lt (blk_lt (g := gb105) (o := .cells #[.slice none 0 0, .bool false] 30 (0, 0)) (by (with_reducible repeat (first | refine blk_drewN ?_ _ | refine blk_drew ?_ | refine blk_alloc ?_ _)); exact BK105.out)) : gb105 ≠ gb112)); have n12_ := Aside0.mk ((by rw [hg]; exact Nat.ne_of_gt (blk_lt (g := gb105) (o := .cells #[.slice none 0 0, .bool false] 30 (0, 0)) (by (with_reducible repeat (first | refine blk_drewN ?_ _ | refine blk_drew ?_ | refine blk_alloc ?_ _)); exact BK105.out)) : gb112 ≠ gb105)); have n13_ := Aside0.mk ((by rw [hg]; exact Nat.ne_of_lt (blk_lt (g := gb106) (o := .cells #[u107000, .bool a0_1] 30 (0, 0)) (by (with_reducible repeat (first | refine blk_drewN ?_ _ | refine blk_drew ?_ | refine blk_alloc ?_ _)); exact BK106.out)) : gb106 ≠ gb112)); have n14_ := Aside0.mk ((by rw [hg]; exact Nat.ne_of_gt (blk_lt (g := gb106) (o := .cells #[u107000, .bool a0_1] 30 (0, 0)) (by (with_reducible repeat (first | refine blk_drewN ?_ _ | refine blk_drew ?_ | refine blk_alloc ?_ _)); exact BK106.out)) : gb112 ≠ gb106)); clear HO_6; clear HO_107000; clear BK104; clear BK105; clear BK106; clear HB; have HO_6 := n0_; have HO_107000 := n1_; have BK104 := n2_; have BK105 := n3_; have BK106 := n4_; have HB := n5_; have BK112 := n6_; have GW112 := n7_; have GE112 := n8_; have NB104_112 := n9_; have NB112_104 := n10_; have NB105_112 := n11_; have NB112_105 := n12_; have NB106_112 := n13_; have NB112_106 := n14_; clear n0_ n1_ n2_ n3_ n4_ n5_ n6_ n7_ n8_ n9_ n10_ n11_ n12_ n13_ n14_; clear hb hbox hg; have hnb21 := NB112_104.out; have hnc21 := NB104_112.out; have hnb22 := NB112_105.out; have hnc22 := NB105_112.out; have hnb23 := NB112_106.out; have hnc23 := NB106_112.out; have hcz24_0 : w20.cell? ⟨gb112, 0, none⟩ = some (.bool false) := (blk_cell BK112.out 0).trans rfl; have hcz24_1 : w20.cell? ⟨gb112, 1, none⟩ = some (.int .i64 0) := (blk_cell BK112.out 1).trans rfl; have hcz24_2 : w20.cell? ⟨gb112, 2, none⟩ = some (.int .i64 0) := (blk_cell BK112.out 2).trans rfl; have hcz24_3 : w20.cell? ⟨gb112, 3, none⟩ = some (.int .i64 0) := (blk_cell BK112.out 3).trans rfl; have hfz24_0 := blk_frozen BK112.out 0; have hfz24_1 := blk_frozen BK112.out 1; have hfz24_2 := blk_frozen BK112.out 2; have hfz24_3 := blk_frozen BK112.out 3) | ((with_reducible refine gate_builtin (b := .append) (xs := #[.tmp 26, .tmp 36]) rfl ?_); at_builtin; refine Kd.R_append k38 (w0 := w) w.heap.size rfl (.tmp 26) (.tmp 36) 36 38 (.agg #[(.bool false), (.int .i64 0), (.int .i64 0), (.int .i64 0)]) 32 rfl Tryz.underlying36 info38 rfl (by decide) (by omega) u6 x6_2 (⟨(rd_T69 (rd_L3 l0_0 x15_1) x22_2).f0, (rd_T69 (rd_L3 l0_0 x15_1) x22_2).f1, (rd_T69 (rd_L3 l0_0 x15_1) x22_2).f2, (rd_T69 (rd_L3 l0_0 x15_1) x22_2).f3⟩ : S38) [.bool ((rd_T69 (rd_L3 l0_0 x15_1) x22_2).f0), .int .i64 ((rd_T69 (rd_L3 l0_0 x15_1) x22_2).f1), .int .i64 ((rd_T69 (rd_L3 l0_0 x15_1) x22_2).f2), .int .i64 ((rd_T69 (rd_L3 l0_0 x15_1) x22_2).f3)] (fun _ => True) (fun _ => False) rfl (by first | (go_simp; done) | (go_simp; rfl)) ?aP (fun _ hk => hk.elim) ?aF ?aO ?aB ?aS ?aL ?_; (case aP => exact k38_mkM _ _ _ (⟨(rd_T69 (rd_L3 l0_0 x15_1) x22_2).f0, (rd_T69 (rd_L3 l0_0 x15_1) x22_2).f1, (rd_T69 (rd_L3 l0_0 x15_1) x22_2).f2, (rd_T69 (rd_L3 l0_0 x15_1) x22_2).f3⟩ : S38)); (case aB => exact (by repeat (first | (with_reducible first | exact HB.out | apply below_alloc | apply pw_below_drewN | apply below_drew1 | refine below_set ?_ GE104.out | refine below_set ?_ GE105.out | refine below_set ?_ GE106.out | refine below_set ?_ GE112.out) | exact HB.out))); (case aF => exact (fun _ _ => trivial)); (case aO => exact (by (with_reducible repeat (first | apply Kd.R_alloc | apply Kd.R_drewN | apply Kd.R_drew)); exact Kd.R_mono (Kd.R_far (p := ⟨gb112, 3, none⟩) (Kd.R_far (p := ⟨gb112, 2, none⟩) (Kd.R_far (p := ⟨gb112, 1, none⟩) (Kd.R_far (p := ⟨gb112, 0, none⟩) (Kd.R_types HO_6.out BK112.out (by decide)) (fun _ hk => hk.2) (.bool ((rd_T69 (rd_L3 l0_0 x15_1) x22_2).f0))) (fun _ hk => hk.2) (.int .i64 ((rd_T69 (rd_L3 l0_0 x15_1) x22_2).f1))) (fun _ hk => hk.2) (.int .i64 ((rd_T69 (rd_L3 l0_0 x15_1) x22_2).f2))) (fun _ hk => hk.2) (.int .i64 ((rd_T69 (rd_L3 l0_0 x15_1) x22_2).f3))) (fun _ hk => trivial))); (case aS => exact (below_size (by repeat (first | (with_reducible first | exact HB.out | apply below_alloc | apply pw_below_drewN | apply below_drew1 | refine below_set ?_ GE104.out | refine below_set ?_ GE105.out | refine below_set ?_ GE106.out | refine below_set ?_ GE112.out) | exact HB.out)))); (case aL => have := LMc19.out; omega); intro v114 w25 ho hb hg hat; rw [← Ny113.out] at ho; have n0_ := Aside0.mk (Kd.S_after (ok := (fun _ => True)) (by (with_reducible repeat (first | apply Kd.S_alloc | apply Kd.S_drewN | apply Kd.S_drew)); exact Kd.S_mono (Kd.S_far (p := ⟨gb112, 3, none⟩) (Kd.S_far (p := ⟨gb112, 2, none⟩) (Kd.S_far (p := ⟨gb112, 1, none⟩) (Kd.S_far (p := ⟨gb112, 0, none⟩) (Kd.S_types HO_107000.out BK112.out (by decide)) (fun _ hk => hk.2) (.bool ((rd_T69 (rd_L3 l0_0 x15_1) x22_2).f0))) (fun _ hk => hk.2) (.int .i64 ((rd_T69 (rd_L3 l0_0 x15_1) x22_2).f1))) (fun _ hk => hk.2) (.int .i64 ((rd_T69 (rd_L3 l0_0 x15_1) x22_2).f2))) (fun _ hk => hk.2) (.int .i64 ((rd_T69 (rd_L3 l0_0 x15_1) x22_2).f3))) (fun _ hk => ⟨trivial, hk.1⟩)) hg hat); have n1_ := Aside0.mk (blk_grown (g := gb104) (o := .cells #[.slice (some ad107) l0_0.length c0_0, .bool a0_1] 24 (0, 0)) (by (with_reducible repeat (first | refine blk_drewN ?_ _ | refine blk_drew ?_ | refine blk_alloc ?_ _)); refine blk_far ?_ NB104_112.out _; (with_reducible repeat (first | refine blk_drewN ?_ _ | refine blk_drew ?_ | refine blk_alloc ?_ _)); refine blk_far ?_ NB104_112.out _; (with_reducible repeat (first | refine blk_drewN ?_ _ | refine blk_drew ?_ | refine blk_alloc ?_ _)); refine blk_far ?_ NB104_112.out _; (with_reducible repeat (first | refine blk_drewN ?_ _ | refine blk_drew ?_ | refine blk_alloc ?_ _)); refine blk_far ?_ NB104_112.out _; (with_reducible repeat (first | refine blk_drewN ?_ _ | refine blk_drew ?_ | refine blk_alloc ?_ _)); exact BK104.out) hg (Kd.R_ne HO_6.out BK104.out (by decide))); have n2_ := Aside0.mk (blk_grown (g := gb105) (o := .cells #[.slice none 0 0, .bool false] 30 (0, 0)) (by (with_reducible repeat (first | refine blk_drewN ?_ _ | refine blk_drew ?_ | refine blk_alloc ?_ _)); refine blk_far ?_ NB105_112.out _; (with_reducible repeat (first | refine blk_drewN ?_ _ | refine blk_drew ?_ | refine blk_alloc ?_ _)); refine blk_far ?_ NB105_112.out _; (with_reducible repeat (first | refine blk_drewN ?_ _ | refine blk_drew ?_ | refine blk_alloc ?_ _)); refine blk_far ?_ NB105_112.out _; (with_reducible repeat (first | refine blk_drewN ?_ _ | refine blk_drew ?_ | refine blk_alloc ?_ _)); refine blk_far ?_ NB105_112.out _; (with_reducible repeat (first | refine blk_drewN ?_ _ | refine blk_drew ?_ | refine blk_alloc ?_ _)); exact BK105.out) hg (Kd.R_ne HO_6.out BK105.out (by decide))); have n3_ := Aside0.mk (blk_grown (g := gb106) (o := .cells #[u107000, .bool a0_1] 30 (0, 0)) (by (with_reducible repeat (first | refine blk_drewN ?_ _ | refine blk_drew ?_ | refine blk_alloc ?_ _)); refine blk_far ?_ NB106_112.out _; (with_reducible repeat (first | refine blk_drewN ?_ _ | refine blk_drew ?_ | refine blk_alloc ?_ _)); refine blk_far ?_ NB106_112.out _; (with_reducible repeat (first | refine blk_drewN ?_ _ | refine blk_drew ?_ | refine blk_alloc ?_ _)); refine blk_far ?_ NB106_112.out _; (with_reducible repeat (first | refine blk_drewN ?_ _ | refine blk_drew ?_ | refine blk_alloc ?_ _)); refine blk_far ?_ NB106_112.out _; (with_reducible repeat (first | refine blk_drewN ?_ _ | refine blk_drew ?_ | refine blk_alloc ?_ _)); exact BK106.out) hg (Kd.R_ne HO_6.out BK106.out (by decide))); have n4_ := Aside0.mk (blk_grown (g := gb112) (o := .cells #[.bool ((rd_T69 (rd_L3 l0_0 x15_1) x22_2).f0), .int .i64 ((rd_T69 (rd_L3 l0_0 x15_1) x22_2).f1), .int .i64 ((rd_T69 (rd_L3 l0_0 x15_1) x22_2).f2), .int .i64 ((rd_T69 (rd_L3 l0_0 x15_1) x22_2).f3)] 69 (0, 0)) (by (with_reducible repeat (first | refine blk_drewN ?_ _ | refine blk_drew ?_ | refine blk_alloc ?_ _)); refine blk_put (cs := #[.bool ((rd_T69 (rd_L3 l0_0 x15_1) x22_2).f0), .int .i64 ((rd_T69 (rd_L3 l0_0 x15_1) x22_2).f1), .int .i64 ((rd_T69 (rd_L3 l0_0 x15_1) x22_2).f2), .int .i64 0]) ?_ 3 _ rfl; (with_reducible repeat (first | refine blk_drewN ?_ _ | refine blk_drew ?_ | refine blk_alloc ?_ _)); refine blk_put (cs := #[.bool ((rd_T69 (rd_L3 l0_0 x15_1) x22_2).f0), .int .i64 ((rd_T69 (rd_L3 l0_0 x15_1) x22_2).f1), .int .i64 0, .int .i64 0]) ?_ 2 _ rfl; (with_reducible repeat (first | refine blk_drewN ?_ _ | refine blk_drew ?_ | refine blk_alloc ?_ _)); refine blk_put (cs := #[.bool ((rd_T69 (rd_L3 l0_0 x15_1) x22_2).f0), .int .i64 0, .int .i64 0, .int .i64 0]) ?_ 1 _ rfl; (with_reducible repeat (first | refine blk_drewN ?_ _ | refine blk_drew ?_ | refine blk_alloc ?_ _)); refine blk_put (cs := #[.bool false, .int .i64 0, .int .i64 0, .int .i64 0]) ?_ 0 _ rfl; (with_reducible repeat (first | refine blk_drewN ?_ _ | refine blk_drew ?_ | refine blk_alloc ?_ _)); exact BK112.out) hg (Kd.R_ne HO_6.out BK112.out (by decide))); have n5_ := Aside0.mk (hb); have n6_ := Aside0.mk (ho); clear HO_107000; clear BK104; clear BK105; clear BK106; clear BK112; clear HB; clear HO_6; have HO_107000 := n0_; have BK104 := n1_; have BK105 := n2_; have BK106 := n3_; have BK112 := n4_; have HB := n5_; have HO115 := n6_; clear n0_ n1_ n2_ n3_ n4_ n5_ n6_; clear ho hb hg hat))
                        go_roundg k2
                        case measure => have := HK1.out; have := HK2.out; omega
                        case rel => exact ⟨(y113), (wrap64 (x22_2 + 1)), (by first | rfl | (simp; done) | (simp [*]; done)), H', ⟨by have := HK1.out; have := HK2.out; omega⟩, ⟨by (with_reducible repeat (first | apply Kd.R_alloc | apply Kd.R_drewN | apply Kd.R_drew)); exact HO115.out⟩, ⟨by (with_reducible repeat (first | apply Kd.S_alloc | apply Kd.S_drewN | apply Kd.S_drew)); exact Kd.S_mono HO_107000.out (fun _ hk => hk.2)⟩, ⟨by (with_reducible repeat (first | refine blk_drewN ?_ _ | refine blk_drew ?_ | refine blk_alloc ?_ _)); exact BK104.out⟩, ⟨by (with_reducible repeat (first | refine blk_drewN ?_ _ | refine blk_drew ?_ | refine blk_alloc ?_ _)); exact BK105.out⟩, ⟨by (with_reducible repeat (first | refine blk_drewN ?_ _ | refine blk_drew ?_ | refine blk_alloc ?_ _)); exact BK106.out⟩, ⟨by repeat (first | (with_reducible first | exact HB.out | apply below_alloc | apply pw_below_drewN | apply below_drew1 | refine below_set ?_ GE104.out | refine below_set ?_ GE105.out | refine below_set ?_ GE106.out | refine below_set ?_ GE112.out) | exact HB.out)⟩⟩
                      · rw [if_neg c19] at H
                        exact absurd H (by simp)
                    · rw [if_neg c18] at H
                      exact absurd H (by simp)
                  · rw [if_neg c17] at H
                    exact absurd H (by simp)
                · rw [if_neg c16] at H
                  have c16b0 : decide (x22_2 < ((rd_L3 l0_0 x15_1).length : Int)) = false := decide_eq_false c16
                  clear c16
                  by_cases c26 : x107000_1.length < 5864062014805
                  · rw [if_pos c26] at H
                    have LMc26 := Aside0.mk c26
                    clear c26
                    obtain ⟨y116, hy116⟩ : ∃ y_ : List (List (S38)), y_ = (x107000_1 ++ [x6_2]) := ⟨_, rfl⟩
                    replace H : (laws_expr.l0 k2 l0_0 (l0_0.length : Int) (wrap64 (x15_1 + 1)) y116 a0_1) = some (r1, r2) := by first | (rw [hy116]; with_reducible exact H) | (have H2_ := (Option.bind_some _ _).symm.trans H; rw [hy116]; with_reducible exact H2_) | (have H2_ := (Option.bind_some _ _).symm.trans H; with_reducible exact H2_) | with_reducible exact H | (rw [hy116]; exact H) | exact H
                    have Ny116 := Aside0.mk hy116
                    clear hy116
                    have H' := Aside0.mk H
                    clear H
                    have hnb27 := NB106_104.out
                    have hnc27 := NB104_106.out
                    have hnb28 := NB106_105.out
                    have hnc28 := NB105_106.out
                    have hcz29_0 : wr.cell? ⟨gb106, 0, none⟩ = some (u107000) := (blk_cell BK106.out 0).trans rfl
                    have hcz29_1 : wr.cell? ⟨gb106, 1, none⟩ = some (.bool a0_1) := (blk_cell BK106.out 1).trans rfl
                    have hfz29_0 := blk_frozen BK106.out 0
                    have hfz29_1 := blk_frozen BK106.out 1
                    obtain ⟨Ao31, co31, eo31⟩ := Kd.R_slice HO_6.out
                    subst eo31
                    go_wp2_with (first | ((with_reducible refine gate_builtin (b := .append) (xs := #[.tmp 40, .tmp 42]) rfl ?_); at_builtin; refine Kd.S_append (Kd.slice 38 k38) (w0 := w) w.heap.size rfl (.tmp 40) (.tmp 42) 28 36 (.slice none 0 0) 24 rfl Tryz.underlying28 info36 rfl (by decide) (by omega) u107000 x107000_1 x6_2 [.slice Ao31 x6_2.length co31] (fun _ => True) (fun k_ => some k_ = (.slice Ao31 x6_2.length co31 : Value).ownBlock) rfl rfl ?aP (fun k_ hk_ => ((Kd.R_mono (ok' := fun k_ => ((fun _ => True)) k_ ∧ some k_ ≠ (u107000 : Value).ownBlock) (Kd.R_apart' (HO_6.out) (Kd.S_typed HO_107000.out) (by decide)) (fun k_ hk => ⟨trivial, hk.2⟩))).1 k_ hk_.symm) ?aF ?aO ?aB ?aS ?aL ?_; (case aP => exact Kd.M_row (Kd.R_mono (Kd.R_tight rfl (Kd.R_mono (ok' := fun k_ => ((fun _ => True)) k_ ∧ some k_ ≠ (u107000 : Value).ownBlock) (Kd.R_apart' (HO_6.out) (Kd.S_typed HO_107000.out) (by decide)) (fun k_ hk => ⟨trivial, hk.2⟩))) (fun _ h_ => h_))); (case aB => exact (by repeat (first | (with_reducible first | exact HB.out | apply below_alloc | apply pw_below_drewN | apply below_drew1 | refine below_set ?_ GE104.out | refine below_set ?_ GE105.out | refine below_set ?_ GE106.out) | exact HB.out))); (case aF => exact (fun _ _ => trivial)); (case aO => exact (by (with_reducible repeat (first | apply Kd.S_alloc | apply Kd.S_drewN | apply Kd.S_drew)); exact Kd.S_mono HO_107000.out (fun k_ hk => ⟨trivial, fun e_ => hk e_⟩))); (case aS => exact (below_size (by repeat (first | (with_reducible first | exact HB.out | apply below_alloc | apply pw_below_drewN | apply below_drew1 | refine below_set ?_ GE104.out | refine below_set ?_ GE105.out | refine below_set ?_ GE106.out) | exact HB.out)))); (case aL => have := LMc26.out; omega); intro v117 w30 ho hb hg hat; rw [← Ny116.out] at ho; have n0_ := Aside0.mk (blk_grown (g := gb104) (o := .cells #[.slice (some ad107) l0_0.length c0_0, .bool a0_1] 24 (0, 0)) (by (with_reducible repeat (first | refine blk_drewN ?_ _ | refine blk_drew ?_ | refine blk_alloc ?_ _)); exact BK104.out) hg (Kd.S_ne HO_107000.out BK104.out (by decide))); have n1_ := Aside0.mk (blk_grown (g := gb105) (o := .cells #[.slice none 0 0, .bool false] 30 (0, 0)) (by (with_reducible repeat (first | refine blk_drewN ?_ _ | refine blk_drew ?_ | refine blk_alloc ?_ _)); exact BK105.out) hg (Kd.S_ne HO_107000.out BK105.out (by decide))); have n2_ := Aside0.mk (blk_grown (g := gb106) (o := .cells #[u107000, .bool a0_1] 30 (0, 0)) (by (with_reducible repeat (first | refine blk_drewN ?_ _ | refine blk_drew ?_ | refine blk_alloc ?_ _)); exact BK106.out) hg (Kd.S_ne HO_107000.out BK106.out (by decide))); have n3_ := Aside0.mk (hb); have n4_ := Aside0.mk (ho); clear BK104; clear BK105; clear BK106; clear HB; clear HO_107000; clear HO_6; have BK104 := n0_; have BK105 := n1_; have BK106 := n2_; have HB := n3_; have HO118 := n4_; clear n0_ n1_ n2_ n3_ n4_; clear ho hb hg hat; obtain ⟨Ao32, co32, eo32⟩ := Kd.S_slice HO118.out; subst eo32; have hcz33_0 : w30.cell? ⟨gb106, 0, none⟩ = some (u107000) := (blk_cell BK106.out 0).trans rfl; have hcz33_1 : w30.cell? ⟨gb106, 1, none⟩ = some (.bool a0_1) := (blk_cell BK106.out 1).trans rfl; have hfz33_0 := blk_frozen BK106.out 0; have hfz33_1 := blk_frozen BK106.out 1))
                    go_roundg k2
                    case measure => have := HK1.out; have := HK2.out; omega
                    case rel => exact ⟨(wrap64 (x15_1 + 1)), (y116), (.slice Ao32 y116.length co32), (by first | rfl | (simp; done) | (simp [*]; done)), H', ⟨by have := HK1.out; have := HK2.out; omega⟩, ⟨by (with_reducible repeat (first | apply Kd.S_alloc | apply Kd.S_drewN | apply Kd.S_drew)); exact Kd.S_mono (Kd.S_far (p := ⟨gb106, 0, none⟩) (Kd.S_types HO118.out BK106.out (by decide)) (fun _ hk => hk.2) (.slice Ao32 y116.length co32)) (fun _ hk => trivial)⟩, ⟨by (with_reducible repeat (first | refine blk_drewN ?_ _ | refine blk_drew ?_ | refine blk_alloc ?_ _)); refine blk_far ?_ NB104_106.out _; (with_reducible repeat (first | refine blk_drewN ?_ _ | refine blk_drew ?_ | refine blk_alloc ?_ _)); exact BK104.out⟩, ⟨by (with_reducible repeat (first | refine blk_drewN ?_ _ | refine blk_drew ?_ | refine blk_alloc ?_ _)); refine blk_far ?_ NB105_106.out _; (with_reducible repeat (first | refine blk_drewN ?_ _ | refine blk_drew ?_ | refine blk_alloc ?_ _)); exact BK105.out⟩, ⟨by (with_reducible repeat (first | refine blk_drewN ?_ _ | refine blk_drew ?_ | refine blk_alloc ?_ _)); refine blk_put (cs := #[u107000, .bool a0_1]) ?_ 0 _ rfl; (with_reducible repeat (first | refine blk_drewN ?_ _ | refine blk_drew ?_ | refine blk_alloc ?_ _)); exact BK106.out⟩, ⟨by repeat (first | (with_reducible first | exact HB.out | apply below_alloc | apply pw_below_drewN | apply below_drew1 | refine below_set ?_ GE104.out | refine below_set ?_ GE105.out | refine below_set ?_ GE106.out) | exact HB.out)⟩⟩
                  · rw [if_neg c26] at H
                    exact absurd H (by simp)
          · rw [if_neg c13] at H
            exact absurd H (by simp)
        · rw [if_neg c12] at H
          exact absurd H (by simp)
      · rw [if_neg c11] at H
        have c11b0 : decide (x15_1 < (l0_0.length : Int)) = false := decide_eq_false c11
        clear c11
        simp only [Option.some.injEq, Prod.mk.injEq] at H
        obtain ⟨rfl, rfl⟩ := H
        have hnb34 := NB106_104.out
        have hnc34 := NB104_106.out
        have hnb35 := NB106_105.out
        have hnc35 := NB105_106.out
        have hcz36_0 : wr.cell? ⟨gb106, 0, none⟩ = some (u107000) := (blk_cell BK106.out 0).trans rfl
        have hcz36_1 : wr.cell? ⟨gb106, 1, none⟩ = some (.bool a0_1) := (blk_cell BK106.out 1).trans rfl
        have hfz36_0 := blk_frozen BK106.out 0
        have hfz36_1 := blk_frozen BK106.out 1
        obtain ⟨Ao37, co37, eo37⟩ := Kd.S_slice HO_107000.out
        subst eo37
        have hnb38 := NB105_104.out
        have hnc38 := NB104_105.out
        have hcz39_0 : wr.cell? ⟨gb105, 0, none⟩ = some (.slice none 0 0) := (blk_cell BK105.out 0).trans rfl
        have hcz39_1 : wr.cell? ⟨gb105, 1, none⟩ = some (.bool false) := (blk_cell BK105.out 1).trans rfl
        have hfz39_0 := blk_frozen BK105.out 0
        have hfz39_1 := blk_frozen BK105.out 1
        go_wp2
        refine bodyPost_ret (results_cell_row rfl _ _ gb105 30 #[.slice Ao37 x107000_1.length co37, .bool a0_1] (0, 0) _ rfl (by (with_reducible repeat (first | refine blk_drewN ?_ _ | refine blk_drew ?_ | refine blk_alloc ?_ _)); refine blk_put (cs := #[.slice Ao37 x107000_1.length co37, .bool false]) ?_ 1 _ rfl; (with_reducible repeat (first | refine blk_drewN ?_ _ | refine blk_drew ?_ | refine blk_alloc ?_ _)); refine blk_put (cs := #[.slice none 0 0, .bool false]) ?_ 0 _ rfl; (with_reducible repeat (first | refine blk_drewN ?_ _ | refine blk_drew ?_ | refine blk_alloc ?_ _)); exact BK105.out) Tryz.underlying30 rfl (by kernel_rfl)) rfl ?_
        exact ⟨_, by first | rfl | (simp [errW_none, errW_some] <;> rfl) | (simp [*, errW_none, errW_some] <;> rfl), by (with_reducible repeat (first | apply Kd.S_alloc | apply Kd.S_drewN | apply Kd.S_drew)); exact Kd.S_mono (Kd.S_far (p := ⟨gb105, 1, none⟩) (Kd.S_far (p := ⟨gb105, 0, none⟩) (Kd.S_types HO_107000.out BK105.out (by decide)) (fun _ hk => hk.2) (.slice Ao37 x107000_1.length co37)) (fun _ hk => hk.2) (.bool a0_1)) (fun _ hk => trivial), by repeat (first | (with_reducible first | exact HB.out | apply below_alloc | apply pw_below_drewN | apply below_drew1 | refine below_set ?_ GE104.out | refine below_set ?_ GE105.out | refine below_set ?_ GE106.out) | exact HB.out)⟩
end Go.Proofs.YtemgofomhjabpaaGreatDoor.Core
namespace Go.Proofs.YtemgofomhjabpaaGreatDoor.Core
open Go.RowKit
def DueC (t : ByteArray) (y mo d h mi s : Int) (b ok : Bool) : Prop := ∀ w, Calls Tryz.prog 14 #[.string t, .agg #[.int .i64 y, .int .i64 mo, .int .i64 d, .int .i64 h, .int .i64 mi, .int .i64 s]] w fun e w' => e = .returned (.tuple #[.bool b, .bool ok]) ∧ Below w.heap.size w w'
open Classical in
noncomputable def impl_Due.f (t : ByteArray) (y mo d h mi s : Int) : Option (Bool × Bool) :=
  if hx : ∃ p : Bool × Bool, DueC t y mo d h mi s p.1 p.2 then some (Classical.choose hx) else none
theorem impl_Due.calls (t : ByteArray) (y mo d h mi s : Int) (r1 r2 : Bool) (w : World) (hf : impl_Due.f t y mo d h mi s = some (r1, r2)) :
    Calls Tryz.prog 14 #[.string t, .agg #[.int .i64 y, .int .i64 mo, .int .i64 d, .int .i64 h, .int .i64 mi, .int .i64 s]] w fun e w' => e = .returned (.tuple #[.bool r1, .bool r2]) ∧ Below w.heap.size w w' := by
  unfold impl_Due.f at hf
  split at hf
  · rename_i hx
    have hp := Classical.choose_spec hx
    rw [Option.some.inj hf] at hp
    exact hp w
  · cases hf
theorem DueC.eq {t : ByteArray} {y mo d h mi s : Int} {b ok : Bool} (hd : DueC t y mo d h mi s b ok) : impl_Due.f t y mo d h mi s = some (b, ok) := by
  have hx : ∃ p : Bool × Bool, DueC t y mo d h mi s p.1 p.2 := ⟨(b, ok), hd⟩
  unfold impl_Due.f
  rw [dif_pos hx]
  have hp := Classical.choose_spec hx
  have e := calls_one (hp default) (hd default) (by kernel_rfl)
  injection e with e
  generalize Classical.choose hx = p at e
  obtain ⟨p1, p2⟩ := p
  simp at e
  rw [e.1, e.2]
end Go.Proofs.YtemgofomhjabpaaGreatDoor.Core
namespace Go.Proofs.YtemgofomhjabpaaGreatDoor.Core
open Go.RowKit Go.Proofs.YtemgofomhjabpaaGreatDoorW.PrintWords Go.Proofs.YtemgofomhjabpaaGreatDoorW.PrintLast Go.Proofs.YtemgofomhjabpaaGreatDoorW.PrintMore
attribute [local go_sem] max2_int min2_int max_two min_two max_three min_three max_four min_four   -- for this text's walks alone
set_option linter.unusedVariables false
set_option linter.unusedSimpArgs false
noncomputable def laws_FnSeconds.j0 : Nat → Bool → Int → Int → Int → Int → Int → Int → List (List (S38)) → Bool → Option (Bool)
  | 0, _, _, _, _, _, _, _, _, _ => none
  | k + 1, x23, x254000, x254001, x254002, x254003, x254004, x254005, x260000, x260001 => if x23 = true then (some true) else ((spec_Text.f k x260000 x260001).bind fun t261 => ((impl_Due.f t261 x254000 x254001 x254002 x254003 x254004 x254005).bind fun bt262 => ((spec_Text.f k x260000 x260001).bind fun t265 => ((impl_Due.f t265 x254000 x254001 x254002 x254003 x254004 0).bind fun bt266 => (if bt262.2 = true then (if bt266.2 = true then (if bt266.1 = true then (some (bt262.1 == (x254005 == 0))) else (some (bt262.1 == false))) else (some false)) else (some false))))))
noncomputable def laws_FnSeconds.f (k : Nat) (l0_0 : List (List (S69))) (a0_1 : Bool) (a1_0 : Int) (a1_1 : Int) (a1_2 : Int) (a1_3 : Int) (a1_4 : Int) (a1_5 : Int) : Option (Bool) := (laws_zzFits1.f k l0_0 a0_1).bind fun t254 => (if t254 = true then ((laws_expr.f k l0_0 a0_1).bind fun bt255 => ((laws_asked.f k bt255.1 bt255.2 a1_0 a1_1 a1_2 a1_3 a1_4 a1_5).bind fun t260 => (if t260 = true then (laws_FnSeconds.j0 k bt255.2 a1_0 a1_1 a1_2 a1_3 a1_4 a1_5 bt255.1 bt255.2) else (laws_FnSeconds.j0 k true a1_0 a1_1 a1_2 a1_3 a1_4 a1_5 bt255.1 bt255.2)))) else (some true))
def laws_FnSeconds.T6 : Bool × List (List Nat × List Nat) := (true, [([], []), ([0], [0]), ([], []), ([1, 2, 1], [1, 2]), ([3], [3]), ([4], [4]), ([4], [4]), ([5, 3, 0, 1, 2, 3, 4, 5], [5]), ([6, 7, 0, 1, 2, 3, 4, 5, 6, 7], [6])])
def laws_FnSeconds.B6 : List Nat := [0, 1, 0, 7, 15, 31, 31, 63, 255]
theorem laws_FnSeconds.tab6 : rtab .any (opsOf Tryz.f6 6) = laws_FnSeconds.T6 := by kernel_rfl
theorem laws_FnSeconds.bits6 : waitsOk laws_FnSeconds.T6.2 laws_FnSeconds.B6 = true := by kernel_rfl
def laws_FnSeconds.T9 : Bool × List (List Nat × List Nat) := (true, [([], []), ([0], [0]), ([], []), ([1, 2, 1], [1, 2]), ([3], [3]), ([4], [4]), ([4], [4]), ([5, 3, 0, 1, 2, 3, 4, 5], [5]), ([6, 7, 0, 1, 2, 3, 4, 5, 6, 7], [6])])
def laws_FnSeconds.B9 : List Nat := [0, 1, 0, 7, 15, 31, 31, 63, 255]
theorem laws_FnSeconds.tab9 : rtab .any (opsOf Tryz.f6 9) = laws_FnSeconds.T9 := by kernel_rfl
theorem laws_FnSeconds.bits9 : waitsOk laws_FnSeconds.T9.2 laws_FnSeconds.B9 = true := by kernel_rfl
set_option maxHeartbeats 8000000 in
set_option maxRecDepth 100000 in
theorem laws_FnSeconds.calls (k : Nat) (A0_0 : Option Addr) (c0_0 : Nat) (l0_0 : List (List (S69))) (a0_1 : Bool) (a1_0 : Int) (a1_1 : Int) (a1_2 : Int) (a1_3 : Int) (a1_4 : Int) (a1_5 : Int) (r : Bool) (w : World) (hr0_0 : Kd.C (Kd.slice 69 k69) w A0_0 l0_0.length l0_0) (hc0_0 : l0_0.length ≤ c0_0) (h : laws_FnSeconds.f k l0_0 a0_1 a1_0 a1_1 a1_2 a1_3 a1_4 a1_5 = some r) :
    Calls Tryz.prog 6 #[.agg #[.slice A0_0 l0_0.length c0_0, .bool a0_1], .agg #[.int .i64 a1_0, .int .i64 a1_1, .int .i64 a1_2, .int .i64 a1_3, .int .i64 a1_4, .int .i64 a1_5]] w fun e w' => e = .returned (.bool r) ∧ Below w.heap.size w w' := by
  have hu24 := Tryz.underlying24
  have hu26 := Tryz.underlying26
  have hu30 := Tryz.underlying30
  have HR0_0 := Aside0.mk hr0_0
  have HC0_0 := Aside0.mk hc0_0
  clear hr0_0 hc0_0
  have HB := Aside0.mk (Below.refl w.heap.size w)
  have H : ((laws_zzFits1.f k l0_0 a0_1).bind fun t254 => (if t254 = true then ((laws_expr.f k l0_0 a0_1).bind fun bt255 => ((laws_asked.f k bt255.1 bt255.2 a1_0 a1_1 a1_2 a1_3 a1_4 a1_5).bind fun t260 => (if t260 = true then (laws_FnSeconds.j0 k bt255.2 a1_0 a1_1 a1_2 a1_3 a1_4 a1_5 bt255.1 bt255.2) else (laws_FnSeconds.j0 k true a1_0 a1_1 a1_2 a1_3 a1_4 a1_5 bt255.1 bt255.2)))) else (some true))) = some r := h
  clear h
  replace H := Option.bind_eq_some_iff.mp H
  obtain ⟨t254, A30, H⟩ := H
  replace H : (if t254 = true then ((laws_expr.f k l0_0 a0_1).bind fun bt255 => ((laws_asked.f k bt255.1 bt255.2 a1_0 a1_1 a1_2 a1_3 a1_4 a1_5).bind fun t260 => (if t260 = true then (laws_FnSeconds.j0 k bt255.2 a1_0 a1_1 a1_2 a1_3 a1_4 a1_5 bt255.1 bt255.2) else (laws_FnSeconds.j0 k true a1_0 a1_1 a1_2 a1_3 a1_4 a1_5 bt255.1 bt255.2)))) else (some true)) = some r := H
  have A3 := Aside0.mk A30
  clear A30
  by_cases c4 : t254 = true
  · subst c4
    have H1 : ((laws_expr.f k l0_0 a0_1).bind fun bt255 => ((laws_asked.f k bt255.1 bt255.2 a1_0 a1_1 a1_2 a1_3 a1_4 a1_5).bind fun t260 => (if t260 = true then (laws_FnSeconds.j0 k bt255.2 a1_0 a1_1 a1_2 a1_3 a1_4 a1_5 bt255.1 bt255.2) else (laws_FnSeconds.j0 k true a1_0 a1_1 a1_2 a1_3 a1_4 a1_5 bt255.1 bt255.2)))) = some r := by rw [if_pos rfl] at H; exact H
    clear H
    have H := H1
    clear H1
    replace H := Option.bind_eq_some_iff.mp H
    obtain ⟨⟨t255, t258⟩, A50, H⟩ := H
    replace H : ((laws_asked.f k t255 t258 a1_0 a1_1 a1_2 a1_3 a1_4 a1_5).bind fun t260 => (if t260 = true then (laws_FnSeconds.j0 k t258 a1_0 a1_1 a1_2 a1_3 a1_4 a1_5 t255 t258) else (laws_FnSeconds.j0 k true a1_0 a1_1 a1_2 a1_3 a1_4 a1_5 t255 t258))) = some r := H
    have A5 := Aside0.mk A50
    clear A50
    have HC6 := Aside0.mk H
    clear H
    go_enter Tryz.func6, Tryz.ntmps6
    go_upto_region 4 with (first | ((with_reducible refine gate_dst (N := 2) rfl ?_); refine box_event ?hg (N := 2) ?hd (cs := #[.slice A0_0 l0_0.length c0_0, .bool a0_1]) (t := 24) ?hr ?_; (case hd => rfl); (case hg => rfl); (case hr => first | (go_simp; done) | (go_simp; rfl)); intro gb252 hg w7 hbox hb; have n0_ := Aside0.mk (below_step (by repeat (first | (with_reducible first | exact HB.out | apply below_alloc | apply pw_below_drewN | apply below_drew1) | exact HB.out)) hb); have n1_ := Aside0.mk (hbox); have n2_ := Aside0.mk ((by rw [hg]; exact (below_size (by repeat (first | (with_reducible first | exact HB.out | apply below_alloc | apply pw_below_drewN | apply below_drew1) | exact HB.out))) : w.heap.size ≤ gb252)); have n3_ := Aside0.mk ((by rw [hg]; exact (below_size (by repeat (first | (with_reducible first | exact HB.out | apply below_alloc | apply pw_below_drewN | apply below_drew1) | exact HB.out))) : w.heap.size ≤ gb252)); clear HB; have HB := n0_; have BK252 := n1_; have GW252 := n2_; have GE252 := n3_; clear n0_ n1_ n2_ n3_; clear hb hbox hg) | ((with_reducible refine gate_dst (N := 3) rfl ?_); refine box_event ?hg (N := 3) ?hd (cs := #[.int .i64 a1_0, .int .i64 a1_1, .int .i64 a1_2, .int .i64 a1_3, .int .i64 a1_4, .int .i64 a1_5]) (t := 26) ?hr ?_; (case hd => rfl); (case hg => rfl); (case hr => first | (go_simp; done) | (go_simp; rfl)); intro gb253 hg w8 hbox hb; have n0_ := Aside0.mk (blk_below (g := gb252) (o := .cells #[.slice A0_0 l0_0.length c0_0, .bool a0_1] 24 (0, 0)) (by (with_reducible repeat (first | refine blk_drewN ?_ _ | refine blk_drew ?_ | refine blk_alloc ?_ _)); exact BK252.out) hb); have n1_ := Aside0.mk (below_step (by repeat (first | (with_reducible first | exact HB.out | apply below_alloc | apply pw_below_drewN | apply below_drew1 | refine below_set ?_ GE252.out) | exact HB.out)) hb); have n2_ := Aside0.mk (hbox); have n3_ := Aside0.mk ((by rw [hg]; exact (below_size (by repeat (first | (with_reducible first | exact HB.out | apply below_alloc | apply pw_below_drewN | apply below_drew1 | refine below_set ?_ GE252.out) | exact HB.out))) : w.heap.size ≤ gb253)); have n4_ := Aside0.mk ((by rw [hg]; exact (below_size (by repeat (first | (with_reducible first | exact HB.out | apply below_alloc | apply pw_below_drewN | apply below_drew1 | refine below_set ?_ GE252.out) | exact HB.out))) : w.heap.size ≤ gb253)); have n5_ := Aside0.mk ((by rw [hg]; exact Nat.ne_of_lt (blk_lt (g := gb252) (o := .cells #[.slice A0_0 l0_0.length c0_0, .bool a0_1] 24 (0, 0)) (by (with_reducible repeat (first | refine blk_drewN ?_ _ | refine blk_drew ?_ | refine blk_alloc ?_ _)); exact BK252.out)) : gb252 ≠ gb253)); have n6_ := Aside0.mk ((by rw [hg]; exact Nat.ne_of_gt (blk_lt (g := gb252) (o := .cells #[.slice A0_0 l0_0.length c0_0, .bool a0_1] 24 (0, 0)) (by (with_reducible repeat (first | refine blk_drewN ?_ _ | refine blk_drew ?_ | refine blk_alloc ?_ _)); exact BK252.out)) : gb253 ≠ gb252)); clear BK252; clear HB; have BK252 := n0_; have HB := n1_; have BK253 := n2_; have GW253 := n3_; have GE253 := n4_; have NB252_253 := n5_; have NB253_252 := n6_; clear n0_ n1_ n2_ n3_ n4_ n5_ n6_; clear hb hbox hg; have hnb9 := NB252_253.out; have hnc9 := NB253_252.out; have hcz10_0 : w8.cell? ⟨gb252, 0, none⟩ = some (.slice A0_0 l0_0.length c0_0) := (blk_cell BK252.out 0).trans rfl; have hcz10_1 : w8.cell? ⟨gb252, 1, none⟩ = some (.bool a0_1) := (blk_cell BK252.out 1).trans rfl; have hfz10_0 := blk_frozen BK252.out 0; have hfz10_1 := blk_frozen BK252.out 1) | ((with_reducible refine gate_callee (f := 11) rfl ?_); refine goesL_ (some 12) rfl rfl Tryz.func11 (by kernel_rfl) rfl #[.agg #[.slice A0_0 l0_0.length c0_0, .bool a0_1]] rfl (by (try simp only [List.map_toArray, List.map_cons, List.map_nil]); first | done | rfl | (simp only [List.length_drop, List.length_take]; rfl)) ?_; (with_reducible refine (laws_zzFits1.calls k _ _ l0_0 a0_1 true _ ?side1 ?side2 A3.out).mono ?_); (case side1 => repeat (first | exact (Kd.C_below HR0_0.out HB.out) | (with_reducible refine Kd.C_alloc ?_ _) | (with_reducible refine Kd.C_drewN ?_ _) | (with_reducible refine Kd.C_drew ?_))); (case side2 => exact HC0_0.out); rintro e w11 ⟨rfl, hb⟩; refine ⟨_, rfl, ?_⟩; have n0_ := Aside0.mk (blk_below (g := gb252) (o := .cells #[.slice A0_0 l0_0.length c0_0, .bool a0_1] 24 (0, 0)) (by (with_reducible repeat (first | refine blk_drewN ?_ _ | refine blk_drew ?_ | refine blk_alloc ?_ _)); exact BK252.out) hb); have n1_ := Aside0.mk (blk_below (g := gb253) (o := .cells #[.int .i64 a1_0, .int .i64 a1_1, .int .i64 a1_2, .int .i64 a1_3, .int .i64 a1_4, .int .i64 a1_5] 26 (0, 0)) (by (with_reducible repeat (first | refine blk_drewN ?_ _ | refine blk_drew ?_ | refine blk_alloc ?_ _)); exact BK253.out) hb); have n2_ := Aside0.mk (below_step (by repeat (first | (with_reducible first | exact HB.out | apply below_alloc | apply pw_below_drewN | apply below_drew1 | refine below_set ?_ GE252.out | refine below_set ?_ GE253.out) | exact HB.out)) hb); clear BK252; clear BK253; clear HB; have BK252 := n0_; have BK253 := n1_; have HB := n2_; clear n0_ n1_ n2_; (try clear hb); (try clear hb2); (try clear hk); (try clear hi); have hcz12_0 : w11.cell? ⟨gb252, 0, none⟩ = some (.slice A0_0 l0_0.length c0_0) := (blk_cell BK252.out 0).trans rfl; have hcz12_1 : w11.cell? ⟨gb252, 1, none⟩ = some (.bool a0_1) := (blk_cell BK252.out 1).trans rfl; have hfz12_0 := blk_frozen BK252.out 0; have hfz12_1 := blk_frozen BK252.out 1) | ((with_reducible refine gate_callee (f := 12) rfl ?_); refine goesL_ (some 15) rfl rfl Tryz.func12 (by kernel_rfl) rfl #[.agg #[.slice A0_0 l0_0.length c0_0, .bool a0_1]] rfl (by (try simp only [List.map_toArray, List.map_cons, List.map_nil]); first | done | rfl | (simp only [List.length_drop, List.length_take]; rfl)) ?_; (with_reducible refine (laws_expr.calls k _ _ l0_0 a0_1 t255 t258 _ ?side1 ?side2 A5.out).mono ?_); (case side1 => repeat (first | exact (Kd.C_below HR0_0.out HB.out) | (with_reducible refine Kd.C_alloc ?_ _) | (with_reducible refine Kd.C_drewN ?_ _) | (with_reducible refine Kd.C_drew ?_))); (case side2 => exact HC0_0.out); rintro e w13 ⟨v256, rfl, ho0, hb⟩; refine ⟨_, rfl, ?_⟩; have n0_ := Aside0.mk (Kd.S_lower ho0 (below_size (by repeat (first | (with_reducible first | exact HB.out | apply below_alloc | apply pw_below_drewN | apply below_drew1 | refine below_set ?_ GE252.out | refine below_set ?_ GE253.out) | exact HB.out)))); have n1_ := Aside0.mk (blk_below (g := gb252) (o := .cells #[.slice A0_0 l0_0.length c0_0, .bool a0_1] 24 (0, 0)) (by (with_reducible repeat (first | refine blk_drewN ?_ _ | refine blk_drew ?_ | refine blk_alloc ?_ _)); exact BK252.out) hb); have n2_ := Aside0.mk (blk_below (g := gb253) (o := .cells #[.int .i64 a1_0, .int .i64 a1_1, .int .i64 a1_2, .int .i64 a1_3, .int .i64 a1_4, .int .i64 a1_5] 26 (0, 0)) (by (with_reducible repeat (first | refine blk_drewN ?_ _ | refine blk_drew ?_ | refine blk_alloc ?_ _)); exact BK253.out) hb); have n3_ := Aside0.mk (below_step (by repeat (first | (with_reducible first | exact HB.out | apply below_alloc | apply pw_below_drewN | apply below_drew1 | refine below_set ?_ GE252.out | refine below_set ?_ GE253.out) | exact HB.out)) hb); clear BK252; clear BK253; clear HB; have HO257 := n0_; have BK252 := n1_; have BK253 := n2_; have HB := n3_; clear n0_ n1_ n2_ n3_; (try clear hb); (try clear hb2); (try clear hk); (try clear hi); (try clear ho0)) | ((with_reducible refine gate_dst (N := 5) rfl ?_); refine box_event ?hg (N := 5) ?hd (cs := #[.slice none 0 0, .bool false]) (t := 30) ?hr ?_; (case hd => rfl); (case hg => rfl); (case hr => first | (go_simp; done) | (go_simp; rfl)); intro gb259 hg w14 hbox hb; have n0_ := Aside0.mk (Kd.S_below (by (with_reducible repeat (first | apply Kd.S_alloc | apply Kd.S_drewN | apply Kd.S_drew)); exact HO257.out) hb); have n1_ := Aside0.mk (blk_below (g := gb252) (o := .cells #[.slice A0_0 l0_0.length c0_0, .bool a0_1] 24 (0, 0)) (by (with_reducible repeat (first | refine blk_drewN ?_ _ | refine blk_drew ?_ | refine blk_alloc ?_ _)); exact BK252.out) hb); have n2_ := Aside0.mk (blk_below (g := gb253) (o := .cells #[.int .i64 a1_0, .int .i64 a1_1, .int .i64 a1_2, .int .i64 a1_3, .int .i64 a1_4, .int .i64 a1_5] 26 (0, 0)) (by (with_reducible repeat (first | refine blk_drewN ?_ _ | refine blk_drew ?_ | refine blk_alloc ?_ _)); exact BK253.out) hb); have n3_ := Aside0.mk (below_step (by repeat (first | (with_reducible first | exact HB.out | apply below_alloc | apply pw_below_drewN | apply below_drew1 | refine below_set ?_ GE252.out | refine below_set ?_ GE253.out) | exact HB.out)) hb); have n4_ := Aside0.mk (hbox); have n5_ := Aside0.mk ((by rw [hg]; exact (below_size (by repeat (first | (with_reducible first | exact HB.out | apply below_alloc | apply pw_below_drewN | apply below_drew1 | refine below_set ?_ GE252.out | refine below_set ?_ GE253.out) | exact HB.out))) : w.heap.size ≤ gb259)); have n6_ := Aside0.mk ((by rw [hg]; exact (below_size (by repeat (first | (with_reducible first | exact HB.out | apply below_alloc | apply pw_below_drewN | apply below_drew1 | refine below_set ?_ GE252.out | refine below_set ?_ GE253.out) | exact HB.out))) : w.heap.size ≤ gb259)); have n7_ := Aside0.mk ((by rw [hg]; exact Nat.ne_of_lt (blk_lt (g := gb252) (o := .cells #[.slice A0_0 l0_0.length c0_0, .bool a0_1] 24 (0, 0)) (by (with_reducible repeat (first | refine blk_drewN ?_ _ | refine blk_drew ?_ | refine blk_alloc ?_ _)); exact BK252.out)) : gb252 ≠ gb259)); have n8_ := Aside0.mk ((by rw [hg]; exact Nat.ne_of_gt (blk_lt (g := gb252) (o := .cells #[.slice A0_0 l0_0.length c0_0, .bool a0_1] 24 (0, 0)) (by (with_reducible repeat (first | refine blk_drewN ?_ _ | refine blk_drew ?_ | refine blk_alloc ?_ _)); exact BK252.out)) : gb259 ≠ gb252)); have n9_ := Aside0.mk ((by rw [hg]; exact Nat.ne_of_lt (blk_lt (g := gb253) (o := .cells #[.int .i64 a1_0, .int .i64 a1_1, .int .i64 a1_2, .int .i64 a1_3, .int .i64 a1_4, .int .i64 a1_5] 26 (0, 0)) (by (with_reducible repeat (first | refine blk_drewN ?_ _ | refine blk_drew ?_ | refine blk_alloc ?_ _)); exact BK253.out)) : gb253 ≠ gb259)); have n10_ := Aside0.mk ((by rw [hg]; exact Nat.ne_of_gt (blk_lt (g := gb253) (o := .cells #[.int .i64 a1_0, .int .i64 a1_1, .int .i64 a1_2, .int .i64 a1_3, .int .i64 a1_4, .int .i64 a1_5] 26 (0, 0)) (by (with_reducible repeat (first | refine blk_drewN ?_ _ | refine blk_drew ?_ | refine blk_alloc ?_ _)); exact BK253.out)) : gb259 ≠ gb253)); clear HO257; clear BK252; clear BK253; clear HB; have HO257 := n0_; have BK252 := n1_; have BK253 := n2_; have HB := n3_; have BK259 := n4_; have GW259 := n5_; have GE259 := n6_; have NB252_259 := n7_; have NB259_252 := n8_; have NB253_259 := n9_; have NB259_253 := n10_; clear n0_ n1_ n2_ n3_ n4_ n5_ n6_ n7_ n8_ n9_ n10_; clear hb hbox hg; obtain ⟨Ao15, co15, eo15⟩ := Kd.S_slice HO257.out; subst eo15; have hnb16 := NB259_252.out; have hnc16 := NB252_259.out; have hnb17 := NB259_253.out; have hnc17 := NB253_259.out; have hcz18_0 : w14.cell? ⟨gb259, 0, none⟩ = some (.slice none 0 0) := (blk_cell BK259.out 0).trans rfl; have hcz18_1 : w14.cell? ⟨gb259, 1, none⟩ = some (.bool false) := (blk_cell BK259.out 1).trans rfl; have hfz18_0 := blk_frozen BK259.out 0; have hfz18_1 := blk_frozen BK259.out 1))
    (try simp only [Act.put, List.setIfInBounds_toArray, List.set_cons_zero, List.set_cons_succ])
    go_cut [23] (fun v23 wc => ∃ (kq : Nat) (x23_5 : Bool), v23 = .bool x23_5 ∧ Aside0 (laws_FnSeconds.j0 kq x23_5 a1_0 a1_1 a1_2 a1_3 a1_4 a1_5 t255 t258 = some r) ∧ Aside0 (kq ≤ k) ∧ Aside0 (Kd.S (Kd.slice 38 k38) 36 wc w.heap.size (fun _ => True) (.slice Ao15 t255.length co15) t255) ∧ Aside0 (wc.heap[gb252]? = some (.cells #[(.slice A0_0 l0_0.length c0_0), .bool a0_1] 24 (0, 0))) ∧ Aside0 (wc.heap[gb253]? = some (.cells #[.int .i64 a1_0, .int .i64 a1_1, .int .i64 a1_2, .int .i64 a1_3, .int .i64 a1_4, .int .i64 a1_5] 26 (0, 0))) ∧ Aside0 (wc.heap[gb259]? = some (.cells #[(.slice Ao15 t255.length co15), .bool t258] 30 (0, 0))) ∧ Aside0 (Below w.heap.size w wc))
    case first =>
      have H := HC6.out
      clear HC6
      replace H := Option.bind_eq_some_iff.mp H
      obtain ⟨t260, A190, H⟩ := H
      replace H : (if t260 = true then (laws_FnSeconds.j0 k t258 a1_0 a1_1 a1_2 a1_3 a1_4 a1_5 t255 t258) else (laws_FnSeconds.j0 k true a1_0 a1_1 a1_2 a1_3 a1_4 a1_5 t255 t258)) = some r := H
      have A19 := Aside0.mk A190
      clear A190
      by_cases c20 : t260 = true
      · subst c20
        have H1 : (laws_FnSeconds.j0 k t258 a1_0 a1_1 a1_2 a1_3 a1_4 a1_5 t255 t258) = some r := by rw [if_pos rfl] at H; exact H
        clear H
        have H := H1
        clear H1
        have H' := Aside0.mk H
        clear H
        have hnb21 := NB259_252.out
        have hnc21 := NB252_259.out
        have hnb22 := NB259_253.out
        have hnc22 := NB253_259.out
        have hcz23_0 : w14.cell? ⟨gb259, 0, none⟩ = some (.slice none 0 0) := (blk_cell BK259.out 0).trans rfl
        have hcz23_1 : w14.cell? ⟨gb259, 1, none⟩ = some (.bool false) := (blk_cell BK259.out 1).trans rfl
        have hfz23_0 := blk_frozen BK259.out 0
        have hfz23_1 := blk_frozen BK259.out 1
        have hnb24 := NB253_252.out
        have hnc24 := NB252_253.out
        have hcz25_0 : w14.cell? ⟨gb253, 0, none⟩ = some (.int .i64 a1_0) := (blk_cell BK253.out 0).trans rfl
        have hcz25_1 : w14.cell? ⟨gb253, 1, none⟩ = some (.int .i64 a1_1) := (blk_cell BK253.out 1).trans rfl
        have hcz25_2 : w14.cell? ⟨gb253, 2, none⟩ = some (.int .i64 a1_2) := (blk_cell BK253.out 2).trans rfl
        have hcz25_3 : w14.cell? ⟨gb253, 3, none⟩ = some (.int .i64 a1_3) := (blk_cell BK253.out 3).trans rfl
        have hcz25_4 : w14.cell? ⟨gb253, 4, none⟩ = some (.int .i64 a1_4) := (blk_cell BK253.out 4).trans rfl
        have hcz25_5 : w14.cell? ⟨gb253, 5, none⟩ = some (.int .i64 a1_5) := (blk_cell BK253.out 5).trans rfl
        have hfz25_0 := blk_frozen BK253.out 0
        have hfz25_1 := blk_frozen BK253.out 1
        have hfz25_2 := blk_frozen BK253.out 2
        have hfz25_3 := blk_frozen BK253.out 3
        have hfz25_4 := blk_frozen BK253.out 4
        have hfz25_5 := blk_frozen BK253.out 5
        go_wp2_with (first | ((with_reducible refine gate_callee (f := 13) rfl ?_); refine goesL_ (some 18) rfl rfl Tryz.func13 (by kernel_rfl) rfl #[.agg #[.slice Ao15 t255.length co15, .bool t258], .agg #[.int .i64 a1_0, .int .i64 a1_1, .int .i64 a1_2, .int .i64 a1_3, .int .i64 a1_4, .int .i64 a1_5]] rfl (by (try simp only [List.map_toArray, List.map_cons, List.map_nil]); first | done | rfl | (simp only [List.length_drop, List.length_take]; rfl)) ?_; (with_reducible refine (laws_asked.calls k _ _ t255 t258 a1_0 a1_1 a1_2 a1_3 a1_4 a1_5 true _ ?side1 ?side2 A19.out).mono ?_); (case side1 => refine (Kd.S_reads' (e := 36) (base := w.heap.size) (ok := fun k_ => True) (n := t255.length) (c := co15) ?_).2.2; exact (by (with_reducible repeat (first | apply Kd.S_alloc | apply Kd.S_drewN | apply Kd.S_drew)); exact (Kd.S_mono (Kd.S_far (p := ⟨gb259, 1, none⟩) (Kd.S_far (p := ⟨gb259, 0, none⟩) (Kd.S_types HO257.out BK259.out (by decide)) (fun _ hk => hk.2) (.slice Ao15 t255.length co15)) (fun _ hk => hk.2) (.bool t258)) (fun _ h_ => h_.1)))); (case side2 => exact (Kd.S_reads' HO257.out).2.1); rintro e w26 ⟨rfl, hb⟩; refine ⟨_, rfl, ?_⟩; have n0_ := Aside0.mk (Kd.S_below (by (with_reducible repeat (first | apply Kd.S_alloc | apply Kd.S_drewN | apply Kd.S_drew)); exact (Kd.S_mono (Kd.S_far (p := ⟨gb259, 1, none⟩) (Kd.S_far (p := ⟨gb259, 0, none⟩) (Kd.S_types HO257.out BK259.out (by decide)) (fun _ hk => hk.2) (.slice Ao15 t255.length co15)) (fun _ hk => hk.2) (.bool t258)) (fun _ h_ => h_.1))) hb); have n1_ := Aside0.mk (blk_below (g := gb252) (o := .cells #[.slice A0_0 l0_0.length c0_0, .bool a0_1] 24 (0, 0)) (by (with_reducible repeat (first | refine blk_drewN ?_ _ | refine blk_drew ?_ | refine blk_alloc ?_ _)); refine blk_far ?_ NB252_259.out _; (with_reducible repeat (first | refine blk_drewN ?_ _ | refine blk_drew ?_ | refine blk_alloc ?_ _)); refine blk_far ?_ NB252_259.out _; (with_reducible repeat (first | refine blk_drewN ?_ _ | refine blk_drew ?_ | refine blk_alloc ?_ _)); exact BK252.out) hb); have n2_ := Aside0.mk (blk_below (g := gb253) (o := .cells #[.int .i64 a1_0, .int .i64 a1_1, .int .i64 a1_2, .int .i64 a1_3, .int .i64 a1_4, .int .i64 a1_5] 26 (0, 0)) (by (with_reducible repeat (first | refine blk_drewN ?_ _ | refine blk_drew ?_ | refine blk_alloc ?_ _)); refine blk_far ?_ NB253_259.out _; (with_reducible repeat (first | refine blk_drewN ?_ _ | refine blk_drew ?_ | refine blk_alloc ?_ _)); refine blk_far ?_ NB253_259.out _; (with_reducible repeat (first | refine blk_drewN ?_ _ | refine blk_drew ?_ | refine blk_alloc ?_ _)); exact BK253.out) hb); have n3_ := Aside0.mk (blk_below (g := gb259) (o := .cells #[.slice Ao15 t255.length co15, .bool t258] 30 (0, 0)) (by (with_reducible repeat (first | refine blk_drewN ?_ _ | refine blk_drew ?_ | refine blk_alloc ?_ _)); refine blk_put (cs := #[.slice Ao15 t255.length co15, .bool false]) ?_ 1 _ rfl; (with_reducible repeat (first | refine blk_drewN ?_ _ | refine blk_drew ?_ | refine blk_alloc ?_ _)); refine blk_put (cs := #[.slice none 0 0, .bool false]) ?_ 0 _ rfl; (with_reducible repeat (first | refine blk_drewN ?_ _ | refine blk_drew ?_ | refine blk_alloc ?_ _)); exact BK259.out) hb); have n4_ := Aside0.mk (below_step (by repeat (first | (with_reducible first | exact HB.out | apply below_alloc | apply pw_below_drewN | apply below_drew1 | refine below_set ?_ GE252.out | refine below_set ?_ GE253.out | refine below_set ?_ GE259.out) | exact HB.out)) hb); clear HO257; clear BK252; clear BK253; clear BK259; clear HB; have HO257 := n0_; have BK252 := n1_; have BK253 := n2_; have BK259 := n3_; have HB := n4_; clear n0_ n1_ n2_ n3_ n4_; (try clear hb); (try clear hb2); (try clear hk); (try clear hi); have hcz27_0 : w26.cell? ⟨gb259, 0, none⟩ = some (.slice Ao15 t255.length co15) := (blk_cell BK259.out 0).trans rfl; have hcz27_1 : w26.cell? ⟨gb259, 1, none⟩ = some (.bool t258) := (blk_cell BK259.out 1).trans rfl; have hfz27_0 := blk_frozen BK259.out 0; have hfz27_1 := blk_frozen BK259.out 1))
        go_meet
        case rel => exact ⟨_, (t258), (by first | rfl | (simp; done) | (simp [*]; done)), H', ⟨by first | omega | exact Nat.le_refl _⟩, ⟨by (with_reducible repeat (first | apply Kd.S_alloc | apply Kd.S_drewN | apply Kd.S_drew)); exact HO257.out⟩, ⟨by (with_reducible repeat (first | refine blk_drewN ?_ _ | refine blk_drew ?_ | refine blk_alloc ?_ _)); exact BK252.out⟩, ⟨by (with_reducible repeat (first | refine blk_drewN ?_ _ | refine blk_drew ?_ | refine blk_alloc ?_ _)); exact BK253.out⟩, ⟨by (with_reducible repeat (first | refine blk_drewN ?_ _ | refine blk_drew ?_ | refine blk_alloc ?_ _)); exact BK259.out⟩, ⟨by repeat (first | (with_reducible first | exact HB.out | apply below_alloc | apply pw_below_drewN | apply below_drew1 | refine below_set ?_ GE252.out | refine below_set ?_ GE253.out | refine below_set ?_ GE259.out) | exact HB.out)⟩⟩
      · replace c20 := Bool.eq_false_iff.mpr c20
        subst c20
        have H1 : (laws_FnSeconds.j0 k true a1_0 a1_1 a1_2 a1_3 a1_4 a1_5 t255 t258) = some r := by rw [if_neg (show ¬ (false = true) by decide)] at H; exact H
        clear H
        have H := H1
        clear H1
        have H' := Aside0.mk H
        clear H
        have hnb28 := NB259_252.out
        have hnc28 := NB252_259.out
        have hnb29 := NB259_253.out
        have hnc29 := NB253_259.out
        have hcz30_0 : w14.cell? ⟨gb259, 0, none⟩ = some (.slice none 0 0) := (blk_cell BK259.out 0).trans rfl
        have hcz30_1 : w14.cell? ⟨gb259, 1, none⟩ = some (.bool false) := (blk_cell BK259.out 1).trans rfl
        have hfz30_0 := blk_frozen BK259.out 0
        have hfz30_1 := blk_frozen BK259.out 1
        have hnb31 := NB253_252.out
        have hnc31 := NB252_253.out
        have hcz32_0 : w14.cell? ⟨gb253, 0, none⟩ = some (.int .i64 a1_0) := (blk_cell BK253.out 0).trans rfl
        have hcz32_1 : w14.cell? ⟨gb253, 1, none⟩ = some (.int .i64 a1_1) := (blk_cell BK253.out 1).trans rfl
        have hcz32_2 : w14.cell? ⟨gb253, 2, none⟩ = some (.int .i64 a1_2) := (blk_cell BK253.out 2).trans rfl
        have hcz32_3 : w14.cell? ⟨gb253, 3, none⟩ = some (.int .i64 a1_3) := (blk_cell BK253.out 3).trans rfl
        have hcz32_4 : w14.cell? ⟨gb253, 4, none⟩ = some (.int .i64 a1_4) := (blk_cell BK253.out 4).trans rfl
        have hcz32_5 : w14.cell? ⟨gb253, 5, none⟩ = some (.int .i64 a1_5) := (blk_cell BK253.out 5).trans rfl
        have hfz32_0 := blk_frozen BK253.out 0
        have hfz32_1 := blk_frozen BK253.out 1
        have hfz32_2 := blk_frozen BK253.out 2
        have hfz32_3 := blk_frozen BK253.out 3
        have hfz32_4 := blk_frozen BK253.out 4
        have hfz32_5 := blk_frozen BK253.out 5
        go_wp2_with (first | ((with_reducible refine gate_callee (f := 13) rfl ?_); refine goesL_ (some 18) rfl rfl Tryz.func13 (by kernel_rfl) rfl #[.agg #[.slice Ao15 t255.length co15, .bool t258], .agg #[.int .i64 a1_0, .int .i64 a1_1, .int .i64 a1_2, .int .i64 a1_3, .int .i64 a1_4, .int .i64 a1_5]] rfl (by (try simp only [List.map_toArray, List.map_cons, List.map_nil]); first | done | rfl | (simp only [List.length_drop, List.length_take]; rfl)) ?_; (with_reducible refine (laws_asked.calls k _ _ t255 t258 a1_0 a1_1 a1_2 a1_3 a1_4 a1_5 false _ ?side1 ?side2 A19.out).mono ?_); (case side1 => refine (Kd.S_reads' (e := 36) (base := w.heap.size) (ok := fun k_ => True) (n := t255.length) (c := co15) ?_).2.2; exact (by (with_reducible repeat (first | apply Kd.S_alloc | apply Kd.S_drewN | apply Kd.S_drew)); exact (Kd.S_mono (Kd.S_far (p := ⟨gb259, 1, none⟩) (Kd.S_far (p := ⟨gb259, 0, none⟩) (Kd.S_types HO257.out BK259.out (by decide)) (fun _ hk => hk.2) (.slice Ao15 t255.length co15)) (fun _ hk => hk.2) (.bool t258)) (fun _ h_ => h_.1)))); (case side2 => exact (Kd.S_reads' HO257.out).2.1); rintro e w33 ⟨rfl, hb⟩; refine ⟨_, rfl, ?_⟩; have n0_ := Aside0.mk (Kd.S_below (by (with_reducible repeat (first | apply Kd.S_alloc | apply Kd.S_drewN | apply Kd.S_drew)); exact (Kd.S_mono (Kd.S_far (p := ⟨gb259, 1, none⟩) (Kd.S_far (p := ⟨gb259, 0, none⟩) (Kd.S_types HO257.out BK259.out (by decide)) (fun _ hk => hk.2) (.slice Ao15 t255.length co15)) (fun _ hk => hk.2) (.bool t258)) (fun _ h_ => h_.1))) hb); have n1_ := Aside0.mk (blk_below (g := gb252) (o := .cells #[.slice A0_0 l0_0.length c0_0, .bool a0_1] 24 (0, 0)) (by (with_reducible repeat (first | refine blk_drewN ?_ _ | refine blk_drew ?_ | refine blk_alloc ?_ _)); refine blk_far ?_ NB252_259.out _; (with_reducible repeat (first | refine blk_drewN ?_ _ | refine blk_drew ?_ | refine blk_alloc ?_ _)); refine blk_far ?_ NB252_259.out _; (with_reducible repeat (first | refine blk_drewN ?_ _ | refine blk_drew ?_ | refine blk_alloc ?_ _)); exact BK252.out) hb); have n2_ := Aside0.mk (blk_below (g := gb253) (o := .cells #[.int .i64 a1_0, .int .i64 a1_1, .int .i64 a1_2, .int .i64 a1_3, .int .i64 a1_4, .int .i64 a1_5] 26 (0, 0)) (by (with_reducible repeat (first | refine blk_drewN ?_ _ | refine blk_drew ?_ | refine blk_alloc ?_ _)); refine blk_far ?_ NB253_259.out _; (with_reducible repeat (first | refine blk_drewN ?_ _ | refine blk_drew ?_ | refine blk_alloc ?_ _)); refine blk_far ?_ NB253_259.out _; (with_reducible repeat (first | refine blk_drewN ?_ _ | refine blk_drew ?_ | refine blk_alloc ?_ _)); exact BK253.out) hb); have n3_ := Aside0.mk (blk_below (g := gb259) (o := .cells #[.slice Ao15 t255.length co15, .bool t258] 30 (0, 0)) (by (with_reducible repeat (first | refine blk_drewN ?_ _ | refine blk_drew ?_ | refine blk_alloc ?_ _)); refine blk_put (cs := #[.slice Ao15 t255.length co15, .bool false]) ?_ 1 _ rfl; (with_reducible repeat (first | refine blk_drewN ?_ _ | refine blk_drew ?_ | refine blk_alloc ?_ _)); refine blk_put (cs := #[.slice none 0 0, .bool false]) ?_ 0 _ rfl; (with_reducible repeat (first | refine blk_drewN ?_ _ | refine blk_drew ?_ | refine blk_alloc ?_ _)); exact BK259.out) hb); have n4_ := Aside0.mk (below_step (by repeat (first | (with_reducible first | exact HB.out | apply below_alloc | apply pw_below_drewN | apply below_drew1 | refine below_set ?_ GE252.out | refine below_set ?_ GE253.out | refine below_set ?_ GE259.out) | exact HB.out)) hb); clear HO257; clear BK252; clear BK253; clear BK259; clear HB; have HO257 := n0_; have BK252 := n1_; have BK253 := n2_; have BK259 := n3_; have HB := n4_; clear n0_ n1_ n2_ n3_ n4_; (try clear hb); (try clear hb2); (try clear hk); (try clear hi)))
        go_meet
        case rel => exact ⟨_, (true), (by first | rfl | (simp; done) | (simp [*]; done)), H', ⟨by first | omega | exact Nat.le_refl _⟩, ⟨by (with_reducible repeat (first | apply Kd.S_alloc | apply Kd.S_drewN | apply Kd.S_drew)); exact HO257.out⟩, ⟨by (with_reducible repeat (first | refine blk_drewN ?_ _ | refine blk_drew ?_ | refine blk_alloc ?_ _)); exact BK252.out⟩, ⟨by (with_reducible repeat (first | refine blk_drewN ?_ _ | refine blk_drew ?_ | refine blk_alloc ?_ _)); exact BK253.out⟩, ⟨by (with_reducible repeat (first | refine blk_drewN ?_ _ | refine blk_drew ?_ | refine blk_alloc ?_ _)); exact BK259.out⟩, ⟨by repeat (first | (with_reducible first | exact HB.out | apply below_alloc | apply pw_below_drewN | apply below_drew1 | refine below_set ?_ GE252.out | refine below_set ?_ GE253.out | refine below_set ?_ GE259.out) | exact HB.out)⟩⟩
    case rest =>
      clear HC6
      try clear c1
      try clear c2
      try clear p2
      try clear c3
      try clear c4
      try clear c6
      try clear c9
      try clear c11
      try clear c12
      try clear c13
      try clear c16
      try clear c17
      try clear c20
      try clear c21
      try clear c22
      try clear c24
      try clear c28
      try clear c29
      try clear c31
      try clear hcz10_0
      try clear hcz10_1
      try clear hcz12_0
      try clear hcz12_1
      try clear hcz18_0
      try clear hcz18_1
      try clear hcz23_0
      try clear hcz23_1
      try clear hcz25_0
      try clear hcz25_1
      try clear hcz25_2
      try clear hcz25_3
      try clear hcz25_4
      try clear hcz25_5
      try clear hcz27_0
      try clear hcz27_1
      try clear hcz30_0
      try clear hcz30_1
      try clear hcz32_0
      try clear hcz32_1
      try clear hcz32_2
      try clear hcz32_3
      try clear hcz32_4
      try clear hcz32_5
      try clear hfz10_0
      try clear hfz10_1
      try clear hfz12_0
      try clear hfz12_1
      try clear hfz18_0
      try clear hfz18_1
      try clear hfz23_0
      try clear hfz23_1
      try clear hfz25_0
      try clear hfz25_1
      try clear hfz25_2
      try clear hfz25_3
      try clear hfz25_4
      try clear hfz25_5
      try clear hfz27_0
      try clear hfz27_1
      try clear hfz30_0
      try clear hfz30_1
      try clear hfz32_0
      try clear hfz32_1
      try clear hfz32_2
      try clear hfz32_3
      try clear hfz32_4
      try clear hfz32_5
      obtain ⟨kq, x23_5, rfl, HA, HJ5, HO_260000, BK252, BK253, BK259, HB⟩ := hcut
      cases kq with
      | zero => exact absurd HA.out (by simp [laws_FnSeconds.j0])
      | succ kj5 =>
        have H := HA.out
        clear HA
        simp only [laws_FnSeconds.j0] at H
        by_cases c34 : x23_5 = true
        · subst c34
          have H1 : (some true) = some r := by rw [if_pos rfl] at H; exact H
          clear H
          have H := H1
          clear H1
          obtain rfl := Option.some.inj H
          go_wp2
          go_ret
          exact ⟨by first | rfl | (simp [errW_none, errW_some] <;> rfl) | (simp [*, errW_none, errW_some] <;> rfl), by repeat (first | (with_reducible first | exact HB.out | apply below_alloc | apply pw_below_drewN | apply below_drew1 | refine below_set ?_ GE252.out | refine below_set ?_ GE253.out | refine below_set ?_ GE259.out) | exact HB.out)⟩
        · replace c34 := Bool.eq_false_iff.mpr c34
          subst c34
          have H1 : ((spec_Text.f kj5 t255 t258).bind fun t261 => ((impl_Due.f t261 a1_0 a1_1 a1_2 a1_3 a1_4 a1_5).bind fun bt262 => ((spec_Text.f kj5 t255 t258).bind fun t265 => ((impl_Due.f t265 a1_0 a1_1 a1_2 a1_3 a1_4 0).bind fun bt266 => (if bt262.2 = true then (if bt266.2 = true then (if bt266.1 = true then (some (bt262.1 == (a1_5 == 0))) else (some (bt262.1 == false))) else (some false)) else (some false)))))) = some r := by rw [if_neg (show ¬ (false = true) by decide)] at H; exact H
          clear H
          have H := H1
          clear H1
          replace H := Option.bind_eq_some_iff.mp H
          obtain ⟨t261, A350, H⟩ := H
          replace H : ((impl_Due.f t261 a1_0 a1_1 a1_2 a1_3 a1_4 a1_5).bind fun bt262 => ((spec_Text.f kj5 t255 t258).bind fun t265 => ((impl_Due.f t265 a1_0 a1_1 a1_2 a1_3 a1_4 0).bind fun bt266 => (if bt262.2 = true then (if bt266.2 = true then (if bt266.1 = true then (some (bt262.1 == (a1_5 == 0))) else (some (bt262.1 == false))) else (some false)) else (some false))))) = some r := H
          have A35 := Aside0.mk A350
          clear A350
          replace H := Option.bind_eq_some_iff.mp H
          obtain ⟨⟨t262, t263⟩, A360, H⟩ := H
          replace H : ((spec_Text.f kj5 t255 t258).bind fun t265 => ((impl_Due.f t265 a1_0 a1_1 a1_2 a1_3 a1_4 0).bind fun bt266 => (if t263 = true then (if bt266.2 = true then (if bt266.1 = true then (some (t262 == (a1_5 == 0))) else (some (t262 == false))) else (some false)) else (some false)))) = some r := H
          have A36 := Aside0.mk A360
          clear A360
          replace H := Option.bind_eq_some_iff.mp H
          obtain ⟨t265, A370, H⟩ := H
          replace H : ((impl_Due.f t265 a1_0 a1_1 a1_2 a1_3 a1_4 0).bind fun bt266 => (if t263 = true then (if bt266.2 = true then (if bt266.1 = true then (some (t262 == (a1_5 == 0))) else (some (t262 == false))) else (some false)) else (some false))) = some r := H
          have A37 := Aside0.mk A370
          clear A370
          replace H := Option.bind_eq_some_iff.mp H
          obtain ⟨⟨t266, t267⟩, A380, H⟩ := H
          replace H : (if t263 = true then (if t267 = true then (if t266 = true then (some (t262 == (a1_5 == 0))) else (some (t262 == false))) else (some false)) else (some false)) = some r := H
          have A38 := Aside0.mk A380
          clear A380
          by_cases c39 : t263 = true
          · subst c39
            have H1 : (if t267 = true then (if t266 = true then (some (t262 == (a1_5 == 0))) else (some (t262 == false))) else (some false)) = some r := by rw [if_pos rfl] at H; exact H
            clear H
            have H := H1
            clear H1
            by_cases c40 : t267 = true
            · subst c40
              have H1 : (if t266 = true then (some (t262 == (a1_5 == 0))) else (some (t262 == false))) = some r := by rw [if_pos rfl] at H; exact H
              clear H
              have H := H1
              clear H1
              by_cases c41 : t266 = true
              · subst c41
                have H1 : (some (t262 == (a1_5 == 0))) = some r := by rw [if_pos rfl] at H; exact H
                clear H
                have H := H1
                clear H1
                obtain rfl := Option.some.inj H
                try go_wp2
                have n0_ := Aside0.mk (Kd.S_drew HO_260000.out)
                have n1_ := Aside0.mk (blk_drew BK252.out)
                have n2_ := Aside0.mk (blk_drew BK253.out)
                have n3_ := Aside0.mk (blk_drew BK259.out)
                have n4_ := Aside0.mk (below_drew1 HB.out)
                clear HO_260000
                clear BK252
                clear BK253
                clear BK259
                clear HB
                have HO_260000 := n0_
                have BK252 := n1_
                have BK253 := n2_
                have BK259 := n3_
                have HB := n4_
                clear n0_ n1_ n2_ n3_ n4_
                refine start_ (n := 9) (S := fun w' => w'.cell? ⟨gb259, 0, none⟩ = some (.slice Ao15 t255.length co15) ∧ w'.cell? ⟨gb259, 1, none⟩ = some (.bool t258) ∧ w'.cell? ⟨gb253, 0, none⟩ = some (.int .i64 a1_0) ∧ w'.cell? ⟨gb253, 1, none⟩ = some (.int .i64 a1_1) ∧ w'.cell? ⟨gb253, 2, none⟩ = some (.int .i64 a1_2) ∧ w'.cell? ⟨gb253, 3, none⟩ = some (.int .i64 a1_3) ∧ w'.cell? ⟨gb253, 4, none⟩ = some (.int .i64 a1_4) ∧ w'.cell? ⟨gb253, 5, none⟩ = some (.int .i64 a1_5)) (ds := []) #[false, false, false, false, false, false, false, false, false] (by kernel_rfl) rfl rfl ⟨(blk_cell BK259.out 0).trans rfl, (blk_cell BK259.out 1).trans rfl, (blk_cell BK253.out 0).trans rfl, (blk_cell BK253.out 1).trans rfl, (blk_cell BK253.out 2).trans rfl, (blk_cell BK253.out 3).trans rfl, (blk_cell BK253.out 4).trans rfl, (blk_cell BK253.out 5).trans rfl⟩ (fun hHeld => ?_); refine with_tabW laws_FnSeconds.tab6 laws_FnSeconds.bits6 (fun HT_ HW_ => ?_)
                generalize wc.drew = w42 at HO_260000 BK252 BK253 BK259 HB hHeld ⊢
                refine take_ (i := 0) (N := some 25) (v := ?_) (a' := ?_) #[true, false, false, false, false, false, false, false, false] rfl rfl (take_ofW HT_.out HW_.out (by kernel_rfl)) (fun _ _ _ h => h) (Or.inl ⟨by rfl, ?_⟩) hHeld ?_ ?_
                rotate_left
                · rintro w' ⟨s0, s1, s2, s3, s4, s5, s6, s7⟩
                  go_simp
                  with_reducible rfl
                rotate_left
                · simp only [Act.put, List.setIfInBounds_toArray, List.set_cons_zero, List.set_cons_succ, i64_w, i32_w]
                  rfl
                refine take_ (i := 2) (N := some 27) (v := ?_) (a' := ?_) #[true, false, true, false, false, false, false, false, false] rfl rfl (take_ofW HT_.out HW_.out (by kernel_rfl)) (fun _ _ _ h => h) (Or.inl ⟨by rfl, ?_⟩) hHeld ?_ ?_
                rotate_left
                · rintro w' ⟨s0, s1, s2, s3, s4, s5, s6, s7⟩
                  go_simp
                  with_reducible rfl
                rotate_left
                · simp only [Act.put, List.setIfInBounds_toArray, List.set_cons_zero, List.set_cons_succ, i64_w, i32_w]
                  rfl
                refine one_ (i := 1) (N := some 26) #[true, true, true, false, false, false, false, false, false] rfl rfl (one_of HT_.out (by kernel_rfl)) (by decide) (fun K hK => ?_)
                refine goes_ Tryz.func15 (by kernel_rfl) rfl #[.agg #[.slice Ao15 t255.length co15, .bool t258]] (by rfl) rfl rfl (by (try simp only [List.map_toArray, List.map_cons, List.map_nil]); first | done | rfl | (simp only [List.length_drop, List.length_take]; rfl)) ?_
                with_reducible refine (spec_Text.calls kj5 _ _ t255 t258 t261 _ ?side1 ?side2 A35.out).mono ?_
                (case side1 => repeat (first | exact (Kd.S_reads' HO_260000.out).2.2 | (with_reducible refine Kd.C_alloc ?_ _) | (with_reducible refine Kd.C_drewN ?_ _) | (with_reducible refine Kd.C_drew ?_)))
                (case side2 => exact (Kd.S_reads' HO_260000.out).2.1)
                rintro e w43 ⟨rfl, hb⟩
                refine ⟨_, rfl, ?_⟩
                have n0_ := Aside0.mk (Kd.S_below (by (with_reducible repeat (first | apply Kd.S_alloc | apply Kd.S_drewN | apply Kd.S_drew)); exact HO_260000.out) hb)
                have n1_ := Aside0.mk (blk_below (g := gb252) (o := .cells #[.slice A0_0 l0_0.length c0_0, .bool a0_1] 24 (0, 0)) (by (with_reducible repeat (first | refine blk_drewN ?_ _ | refine blk_drew ?_ | refine blk_alloc ?_ _)); exact BK252.out) hb)
                have n2_ := Aside0.mk (blk_below (g := gb253) (o := .cells #[.int .i64 a1_0, .int .i64 a1_1, .int .i64 a1_2, .int .i64 a1_3, .int .i64 a1_4, .int .i64 a1_5] 26 (0, 0)) (by (with_reducible repeat (first | refine blk_drewN ?_ _ | refine blk_drew ?_ | refine blk_alloc ?_ _)); exact BK253.out) hb)
                have n3_ := Aside0.mk (blk_below (g := gb259) (o := .cells #[.slice Ao15 t255.length co15, .bool t258] 30 (0, 0)) (by (with_reducible repeat (first | refine blk_drewN ?_ _ | refine blk_drew ?_ | refine blk_alloc ?_ _)); exact BK259.out) hb)
                have n4_ := Aside0.mk (below_step (by repeat (first | (with_reducible first | exact HB.out | apply below_alloc | apply pw_below_drewN | apply below_drew1 | refine below_set ?_ GE252.out | refine below_set ?_ GE253.out | refine below_set ?_ GE259.out) | exact HB.out)) hb)
                clear HO_260000
                clear BK252
                clear BK253
                clear BK259
                clear HB
                have HO_260000 := n0_
                have BK252 := n1_
                have BK253 := n2_
                have BK259 := n3_
                have HB := n4_
                clear n0_ n1_ n2_ n3_ n4_
                (try clear hb)
                (try clear hb2)
                (try clear hk)
                (try clear hi)
                refine hK.out _ _ ⟨(blk_cell BK259.out 0).trans rfl, (blk_cell BK259.out 1).trans rfl, (blk_cell BK253.out 0).trans rfl, (blk_cell BK253.out 1).trans rfl, (blk_cell BK253.out 2).trans rfl, (blk_cell BK253.out 3).trans rfl, (blk_cell BK253.out 4).trans rfl, (blk_cell BK253.out 5).trans rfl⟩ (fun hHeld => ?_)
                clear hK K
                refine norm_ (a' := ?_) ?_ ?_
                rotate_left
                · show Act.put _ (some 26) _ = _
                  simp only [Act.put, List.setIfInBounds_toArray, List.set_cons_zero, List.set_cons_succ, i64_w, i32_w]
                  rfl
                refine one_ (i := 3) (N := some 28) #[true, true, true, true, false, false, false, false, false] rfl rfl (one_of HT_.out (by kernel_rfl)) (by decide) (fun K hK => ?_)
                refine goes_ Tryz.func14 (by kernel_rfl) rfl #[.string t261, .agg #[.int .i64 a1_0, .int .i64 a1_1, .int .i64 a1_2, .int .i64 a1_3, .int .i64 a1_4, .int .i64 a1_5]] (by rfl) rfl rfl (by (try simp only [List.map_toArray, List.map_cons, List.map_nil]); first | done | rfl | (simp only [List.length_drop, List.length_take]; rfl)) ?_
                with_reducible refine (impl_Due.calls t261 a1_0 a1_1 a1_2 a1_3 a1_4 a1_5 t262 true _ A36.out).mono ?_
                rintro e w44 ⟨rfl, hb⟩
                refine ⟨_, rfl, ?_⟩
                have n0_ := Aside0.mk (Kd.S_below (by (with_reducible repeat (first | apply Kd.S_alloc | apply Kd.S_drewN | apply Kd.S_drew)); exact HO_260000.out) hb)
                have n1_ := Aside0.mk (blk_below (g := gb252) (o := .cells #[.slice A0_0 l0_0.length c0_0, .bool a0_1] 24 (0, 0)) (by (with_reducible repeat (first | refine blk_drewN ?_ _ | refine blk_drew ?_ | refine blk_alloc ?_ _)); exact BK252.out) hb)
                have n2_ := Aside0.mk (blk_below (g := gb253) (o := .cells #[.int .i64 a1_0, .int .i64 a1_1, .int .i64 a1_2, .int .i64 a1_3, .int .i64 a1_4, .int .i64 a1_5] 26 (0, 0)) (by (with_reducible repeat (first | refine blk_drewN ?_ _ | refine blk_drew ?_ | refine blk_alloc ?_ _)); exact BK253.out) hb)
                have n3_ := Aside0.mk (blk_below (g := gb259) (o := .cells #[.slice Ao15 t255.length co15, .bool t258] 30 (0, 0)) (by (with_reducible repeat (first | refine blk_drewN ?_ _ | refine blk_drew ?_ | refine blk_alloc ?_ _)); exact BK259.out) hb)
                have n4_ := Aside0.mk (below_step (by repeat (first | (with_reducible first | exact HB.out | apply below_alloc | apply pw_below_drewN | apply below_drew1 | refine below_set ?_ GE252.out | refine below_set ?_ GE253.out | refine below_set ?_ GE259.out) | exact HB.out)) hb)
                clear HO_260000
                clear BK252
                clear BK253
                clear BK259
                clear HB
                have HO_260000 := n0_
                have BK252 := n1_
                have BK253 := n2_
                have BK259 := n3_
                have HB := n4_
                clear n0_ n1_ n2_ n3_ n4_
                (try clear hb)
                (try clear hb2)
                (try clear hk)
                (try clear hi)
                refine hK.out _ _ ⟨(blk_cell BK259.out 0).trans rfl, (blk_cell BK259.out 1).trans rfl, (blk_cell BK253.out 0).trans rfl, (blk_cell BK253.out 1).trans rfl, (blk_cell BK253.out 2).trans rfl, (blk_cell BK253.out 3).trans rfl, (blk_cell BK253.out 4).trans rfl, (blk_cell BK253.out 5).trans rfl⟩ (fun hHeld => ?_)
                clear hK K
                refine norm_ (a' := ?_) ?_ ?_
                rotate_left
                · show Act.put _ (some 28) _ = _
                  simp only [Act.put, List.setIfInBounds_toArray, List.set_cons_zero, List.set_cons_succ, i64_w, i32_w]
                  rfl
                refine pure_ (i := 4) (N := some 24) (v := ?_) (a' := ?_) #[true, true, true, true, true, false, false, false, false] rfl rfl (any_of HT_.out (by kernel_rfl)) (fun _ _ _ h => h) (Or.inl ⟨by rfl, ?_⟩) ?_ ?_
                rotate_left
                · intro w'
                  go_simp
                  with_reducible rfl
                rotate_left
                · simp only [Act.put, List.setIfInBounds_toArray, List.set_cons_zero, List.set_cons_succ, i64_w, i32_w]
                  rfl
                refine pure_ (i := 5) (N := some 29) (v := ?_) (a' := ?_) #[true, true, true, true, true, true, false, false, false] rfl rfl (any_of HT_.out (by kernel_rfl)) (fun _ _ _ h => h) (Or.inl ⟨by rfl, ?_⟩) ?_ ?_
                rotate_left
                · intro w'
                  go_simp
                  with_reducible rfl
                rotate_left
                · simp only [Act.put, List.setIfInBounds_toArray, List.set_cons_zero, List.set_cons_succ, i64_w, i32_w]
                  rfl
                refine pure_ (i := 6) (N := some 30) (v := ?_) (a' := ?_) #[true, true, true, true, true, true, true, false, false] rfl rfl (any_of HT_.out (by kernel_rfl)) (fun _ _ _ h => h) (Or.inl ⟨by rfl, ?_⟩) ?_ ?_
                rotate_left
                · intro w'
                  go_simp
                  with_reducible rfl
                rotate_left
                · simp only [Act.put, List.setIfInBounds_toArray, List.set_cons_zero, List.set_cons_succ, i64_w, i32_w]
                  rfl
                refine pure_ (i := 7) (N := some 6) (v := ?_) (a' := ?_) #[true, true, true, true, true, true, true, true, false] rfl rfl (any_of HT_.out (by kernel_rfl)) (fun _ _ _ h => h) (Or.inl ⟨by rfl, ?_⟩) ?_ ?_
                rotate_left
                · intro w'
                  go_simp
                  with_reducible rfl
                rotate_left
                · simp only [Act.put, List.setIfInBounds_toArray, List.set_cons_zero, List.set_cons_succ, i64_w, i32_w]
                  rfl
                refine pure_ (i := 8) (N := some 7) (v := ?_) (a' := ?_) #[true, true, true, true, true, true, true, true, true] rfl rfl (any_of HT_.out (by kernel_rfl)) (fun _ _ _ h => h) (Or.inl ⟨by rfl, ?_⟩) ?_ ?_
                rotate_left
                · intro w'
                  go_simp
                  with_reducible rfl
                rotate_left
                · simp only [Act.put, List.setIfInBounds_toArray, List.set_cons_zero, List.set_cons_succ, i64_w, i32_w]
                  rfl
                refine done_ (done_of HT_.out (by kernel_rfl)) ?_
                have hnb45 := NB253_252.out
                have hnc45 := NB252_253.out
                have hnb46 := NB253_259.out
                have hnc46 := NB259_253.out
                have hcz47_0 : w44.cell? ⟨gb253, 0, none⟩ = some (.int .i64 a1_0) := (blk_cell BK253.out 0).trans rfl
                have hcz47_1 : w44.cell? ⟨gb253, 1, none⟩ = some (.int .i64 a1_1) := (blk_cell BK253.out 1).trans rfl
                have hcz47_2 : w44.cell? ⟨gb253, 2, none⟩ = some (.int .i64 a1_2) := (blk_cell BK253.out 2).trans rfl
                have hcz47_3 : w44.cell? ⟨gb253, 3, none⟩ = some (.int .i64 a1_3) := (blk_cell BK253.out 3).trans rfl
                have hcz47_4 : w44.cell? ⟨gb253, 4, none⟩ = some (.int .i64 a1_4) := (blk_cell BK253.out 4).trans rfl
                have hcz47_5 : w44.cell? ⟨gb253, 5, none⟩ = some (.int .i64 a1_5) := (blk_cell BK253.out 5).trans rfl
                have hfz47_0 := blk_frozen BK253.out 0
                have hfz47_1 := blk_frozen BK253.out 1
                have hfz47_2 := blk_frozen BK253.out 2
                have hfz47_3 := blk_frozen BK253.out 3
                have hfz47_4 := blk_frozen BK253.out 4
                have hfz47_5 := blk_frozen BK253.out 5
                try go_wp2_with (first | ((with_reducible refine gate_dst (N := 8) rfl ?_); refine box_event ?hg (N := 8) ?hd (cs := #[.int .i64 0, .int .i64 0, .int .i64 0, .int .i64 0, .int .i64 0, .int .i64 0]) (t := 26) ?hr ?_; (case hd => rfl); (case hg => rfl); (case hr => first | (go_simp; done) | (go_simp; rfl)); intro gb264 hg w48 hbox hb; have n0_ := Aside0.mk (Kd.S_below (by (with_reducible repeat (first | apply Kd.S_alloc | apply Kd.S_drewN | apply Kd.S_drew)); exact HO_260000.out) hb); have n1_ := Aside0.mk (blk_below (g := gb252) (o := .cells #[.slice A0_0 l0_0.length c0_0, .bool a0_1] 24 (0, 0)) (by (with_reducible repeat (first | refine blk_drewN ?_ _ | refine blk_drew ?_ | refine blk_alloc ?_ _)); exact BK252.out) hb); have n2_ := Aside0.mk (blk_below (g := gb253) (o := .cells #[.int .i64 a1_0, .int .i64 a1_1, .int .i64 a1_2, .int .i64 a1_3, .int .i64 a1_4, .int .i64 a1_5] 26 (0, 0)) (by (with_reducible repeat (first | refine blk_drewN ?_ _ | refine blk_drew ?_ | refine blk_alloc ?_ _)); exact BK253.out) hb); have n3_ := Aside0.mk (blk_below (g := gb259) (o := .cells #[.slice Ao15 t255.length co15, .bool t258] 30 (0, 0)) (by (with_reducible repeat (first | refine blk_drewN ?_ _ | refine blk_drew ?_ | refine blk_alloc ?_ _)); exact BK259.out) hb); have n4_ := Aside0.mk (below_step (by repeat (first | (with_reducible first | exact HB.out | apply below_alloc | apply pw_below_drewN | apply below_drew1 | refine below_set ?_ GE252.out | refine below_set ?_ GE253.out | refine below_set ?_ GE259.out) | exact HB.out)) hb); have n5_ := Aside0.mk (hbox); have n6_ := Aside0.mk ((by rw [hg]; exact (below_size (by repeat (first | (with_reducible first | exact HB.out | apply below_alloc | apply pw_below_drewN | apply below_drew1 | refine below_set ?_ GE252.out | refine below_set ?_ GE253.out | refine below_set ?_ GE259.out) | exact HB.out))) : w.heap.size ≤ gb264)); have n7_ := Aside0.mk ((by rw [hg]; exact (below_size (by repeat (first | (with_reducible first | exact HB.out | apply below_alloc | apply pw_below_drewN | apply below_drew1 | refine below_set ?_ GE252.out | refine below_set ?_ GE253.out | refine below_set ?_ GE259.out) | exact HB.out))) : w.heap.size ≤ gb264)); have n8_ := Aside0.mk ((by rw [hg]; exact Nat.ne_of_lt (blk_lt (g := gb252) (o := .cells #[.slice A0_0 l0_0.length c0_0, .bool a0_1] 24 (0, 0)) (by (with_reducible repeat (first | refine blk_drewN ?_ _ | refine blk_drew ?_ | refine blk_alloc ?_ _)); exact BK252.out)) : gb252 ≠ gb264)); have n9_ := Aside0.mk ((by rw [hg]; exact Nat.ne_of_gt (blk_lt (g := gb252) (o := .cells #[.slice A0_0 l0_0.length c0_0, .bool a0_1] 24 (0, 0)) (by (with_reducible repeat (first | refine blk_drewN ?_ _ | refine blk_drew ?_ | refine blk_alloc ?_ _)); exact BK252.out)) : gb264 ≠ gb252)); have n10_ := Aside0.mk ((by rw [hg]; exact Nat.ne_of_lt (blk_lt (g := gb253) (o := .cells #[.int .i64 a1_0, .int .i64 a1_1, .int .i64 a1_2, .int .i64 a1_3, .int .i64 a1_4, .int .i64 a1_5] 26 (0, 0)) (by (with_reducible repeat (first | refine blk_drewN ?_ _ | refine blk_drew ?_ | refine blk_alloc ?_ _)); exact BK253.out)) : gb253 ≠ gb264)); have n11_ := Aside0.mk ((by rw [hg]; exact Nat.ne_of_gt (blk_lt (g := gb253) (o := .cells #[.int .i64 a1_0, .int .i64 a1_1, .int .i64 a1_2, .int .i64 a1_3, .int .i64 a1_4, .int .i64 a1_5] 26 (0, 0)) (by (with_reducible repeat (first | refine blk_drewN ?_ _ | refine blk_drew ?_ | refine blk_alloc ?_ _)); exact BK253.out)) : gb264 ≠ gb253)); have n12_ := Aside0.mk ((by rw [hg]; exact Nat.ne_of_lt (blk_lt (g := gb259) (o := .cells #[.slice Ao15 t255.length co15, .bool t258] 30 (0, 0)) (by (with_reducible repeat (first | refine blk_drewN ?_ _ | refine blk_drew ?_ | refine blk_alloc ?_ _)); exact BK259.out)) : gb259 ≠ gb264)); have n13_ := Aside0.mk ((by rw [hg]; exact Nat.ne_of_gt (blk_lt (g := gb259) (o := .cells #[.slice Ao15 t255.length co15, .bool t258] 30 (0, 0)) (by (with_reducible repeat (first | refine blk_drewN ?_ _ | refine blk_drew ?_ | refine blk_alloc ?_ _)); exact BK259.out)) : gb264 ≠ gb259)); clear HO_260000; clear BK252; clear BK253; clear BK259; clear HB; have HO_260000 := n0_; have BK252 := n1_; have BK253 := n2_; have BK259 := n3_; have HB := n4_; have BK264 := n5_; have GW264 := n6_; have GE264 := n7_; have NB252_264 := n8_; have NB264_252 := n9_; have NB253_264 := n10_; have NB264_253 := n11_; have NB259_264 := n12_; have NB264_259 := n13_; clear n0_ n1_ n2_ n3_ n4_ n5_ n6_ n7_ n8_ n9_ n10_ n11_ n12_ n13_; clear hb hbox hg; have hnb49 := NB264_252.out; have hnc49 := NB252_264.out; have hnb50 := NB264_253.out; have hnc50 := NB253_264.out; have hnb51 := NB264_259.out; have hnc51 := NB259_264.out; have hcz52_0 : w48.cell? ⟨gb264, 0, none⟩ = some (.int .i64 0) := (blk_cell BK264.out 0).trans rfl; have hcz52_1 : w48.cell? ⟨gb264, 1, none⟩ = some (.int .i64 0) := (blk_cell BK264.out 1).trans rfl; have hcz52_2 : w48.cell? ⟨gb264, 2, none⟩ = some (.int .i64 0) := (blk_cell BK264.out 2).trans rfl; have hcz52_3 : w48.cell? ⟨gb264, 3, none⟩ = some (.int .i64 0) := (blk_cell BK264.out 3).trans rfl; have hcz52_4 : w48.cell? ⟨gb264, 4, none⟩ = some (.int .i64 0) := (blk_cell BK264.out 4).trans rfl; have hcz52_5 : w48.cell? ⟨gb264, 5, none⟩ = some (.int .i64 0) := (blk_cell BK264.out 5).trans rfl; have hfz52_0 := blk_frozen BK264.out 0; have hfz52_1 := blk_frozen BK264.out 1; have hfz52_2 := blk_frozen BK264.out 2; have hfz52_3 := blk_frozen BK264.out 3; have hfz52_4 := blk_frozen BK264.out 4; have hfz52_5 := blk_frozen BK264.out 5))
                have n0_ : Aside0 (Kd.S (Kd.slice 38 k38) 36 (((((((w48.setCell ⟨gb264, 0, none⟩ (.int .i64 a1_0)).setCell ⟨gb264, 1, none⟩ (.int .i64 a1_1)).setCell ⟨gb264, 2, none⟩ (.int .i64 a1_2)).setCell ⟨gb264, 3, none⟩ (.int .i64 a1_3)).setCell ⟨gb264, 4, none⟩ (.int .i64 a1_4)).setCell ⟨gb264, 5, none⟩ (.int .i64 a1_5)).setCell ⟨gb264, 5, none⟩ (.int .i64 0)) w.heap.size (fun _ => True) (.slice Ao15 t255.length co15) t255) := ⟨by (with_reducible repeat (first | apply Kd.S_alloc | apply Kd.S_drewN | apply Kd.S_drew)); exact Kd.S_mono (Kd.S_far (p := ⟨gb264, 5, none⟩) (Kd.S_far (p := ⟨gb264, 5, none⟩) (Kd.S_far (p := ⟨gb264, 4, none⟩) (Kd.S_far (p := ⟨gb264, 3, none⟩) (Kd.S_far (p := ⟨gb264, 2, none⟩) (Kd.S_far (p := ⟨gb264, 1, none⟩) (Kd.S_far (p := ⟨gb264, 0, none⟩) (Kd.S_types HO_260000.out BK264.out (by decide)) (fun _ hk => hk.2) (.int .i64 a1_0)) (fun _ hk => hk.2) (.int .i64 a1_1)) (fun _ hk => hk.2) (.int .i64 a1_2)) (fun _ hk => hk.2) (.int .i64 a1_3)) (fun _ hk => hk.2) (.int .i64 a1_4)) (fun _ hk => hk.2) (.int .i64 a1_5)) (fun _ hk => hk.2) (.int .i64 0)) (fun _ hk => trivial)⟩
                have n1_ : Aside0 ((((((((w48.setCell ⟨gb264, 0, none⟩ (.int .i64 a1_0)).setCell ⟨gb264, 1, none⟩ (.int .i64 a1_1)).setCell ⟨gb264, 2, none⟩ (.int .i64 a1_2)).setCell ⟨gb264, 3, none⟩ (.int .i64 a1_3)).setCell ⟨gb264, 4, none⟩ (.int .i64 a1_4)).setCell ⟨gb264, 5, none⟩ (.int .i64 a1_5)).setCell ⟨gb264, 5, none⟩ (.int .i64 0)).heap[gb252]? = some (.cells #[.slice A0_0 l0_0.length c0_0, .bool a0_1] 24 (0, 0))) := ⟨by (with_reducible repeat (first | refine blk_drewN ?_ _ | refine blk_drew ?_ | refine blk_alloc ?_ _)); refine blk_far ?_ NB252_264.out _; (with_reducible repeat (first | refine blk_drewN ?_ _ | refine blk_drew ?_ | refine blk_alloc ?_ _)); refine blk_far ?_ NB252_264.out _; (with_reducible repeat (first | refine blk_drewN ?_ _ | refine blk_drew ?_ | refine blk_alloc ?_ _)); refine blk_far ?_ NB252_264.out _; (with_reducible repeat (first | refine blk_drewN ?_ _ | refine blk_drew ?_ | refine blk_alloc ?_ _)); refine blk_far ?_ NB252_264.out _; (with_reducible repeat (first | refine blk_drewN ?_ _ | refine blk_drew ?_ | refine blk_alloc ?_ _)); refine blk_far ?_ NB252_264.out _; (with_reducible repeat (first | refine blk_drewN ?_ _ | refine blk_drew ?_ | refine blk_alloc ?_ _)); refine blk_far ?_ NB252_264.out _; (with_reducible repeat (first | refine blk_drewN ?_ _ | refine blk_drew ?_ | refine blk_alloc ?_ _)); refine blk_far ?_ NB252_264.out _; (with_reducible repeat (first | refine blk_drewN ?_ _ | refine blk_drew ?_ | refine blk_alloc ?_ _)); exact BK252.out⟩
                have n2_ : Aside0 ((((((((w48.setCell ⟨gb264, 0, none⟩ (.int .i64 a1_0)).setCell ⟨gb264, 1, none⟩ (.int .i64 a1_1)).setCell ⟨gb264, 2, none⟩ (.int .i64 a1_2)).setCell ⟨gb264, 3, none⟩ (.int .i64 a1_3)).setCell ⟨gb264, 4, none⟩ (.int .i64 a1_4)).setCell ⟨gb264, 5, none⟩ (.int .i64 a1_5)).setCell ⟨gb264, 5, none⟩ (.int .i64 0)).heap[gb253]? = some (.cells #[.int .i64 a1_0, .int .i64 a1_1, .int .i64 a1_2, .int .i64 a1_3, .int .i64 a1_4, .int .i64 a1_5] 26 (0, 0))) := ⟨by (with_reducible repeat (first | refine blk_drewN ?_ _ | refine blk_drew ?_ | refine blk_alloc ?_ _)); refine blk_far ?_ NB253_264.out _; (with_reducible repeat (first | refine blk_drewN ?_ _ | refine blk_drew ?_ | refine blk_alloc ?_ _)); refine blk_far ?_ NB253_264.out _; (with_reducible repeat (first | refine blk_drewN ?_ _ | refine blk_drew ?_ | refine blk_alloc ?_ _)); refine blk_far ?_ NB253_264.out _; (with_reducible repeat (first | refine blk_drewN ?_ _ | refine blk_drew ?_ | refine blk_alloc ?_ _)); refine blk_far ?_ NB253_264.out _; (with_reducible repeat (first | refine blk_drewN ?_ _ | refine blk_drew ?_ | refine blk_alloc ?_ _)); refine blk_far ?_ NB253_264.out _; (with_reducible repeat (first | refine blk_drewN ?_ _ | refine blk_drew ?_ | refine blk_alloc ?_ _)); refine blk_far ?_ NB253_264.out _; (with_reducible repeat (first | refine blk_drewN ?_ _ | refine blk_drew ?_ | refine blk_alloc ?_ _)); refine blk_far ?_ NB253_264.out _; (with_reducible repeat (first | refine blk_drewN ?_ _ | refine blk_drew ?_ | refine blk_alloc ?_ _)); exact BK253.out⟩
                have n3_ : Aside0 ((((((((w48.setCell ⟨gb264, 0, none⟩ (.int .i64 a1_0)).setCell ⟨gb264, 1, none⟩ (.int .i64 a1_1)).setCell ⟨gb264, 2, none⟩ (.int .i64 a1_2)).setCell ⟨gb264, 3, none⟩ (.int .i64 a1_3)).setCell ⟨gb264, 4, none⟩ (.int .i64 a1_4)).setCell ⟨gb264, 5, none⟩ (.int .i64 a1_5)).setCell ⟨gb264, 5, none⟩ (.int .i64 0)).heap[gb259]? = some (.cells #[.slice Ao15 t255.length co15, .bool t258] 30 (0, 0))) := ⟨by (with_reducible repeat (first | refine blk_drewN ?_ _ | refine blk_drew ?_ | refine blk_alloc ?_ _)); refine blk_far ?_ NB259_264.out _; (with_reducible repeat (first | refine blk_drewN ?_ _ | refine blk_drew ?_ | refine blk_alloc ?_ _)); refine blk_far ?_ NB259_264.out _; (with_reducible repeat (first | refine blk_drewN ?_ _ | refine blk_drew ?_ | refine blk_alloc ?_ _)); refine blk_far ?_ NB259_264.out _; (with_reducible repeat (first | refine blk_drewN ?_ _ | refine blk_drew ?_ | refine blk_alloc ?_ _)); refine blk_far ?_ NB259_264.out _; (with_reducible repeat (first | refine blk_drewN ?_ _ | refine blk_drew ?_ | refine blk_alloc ?_ _)); refine blk_far ?_ NB259_264.out _; (with_reducible repeat (first | refine blk_drewN ?_ _ | refine blk_drew ?_ | refine blk_alloc ?_ _)); refine blk_far ?_ NB259_264.out _; (with_reducible repeat (first | refine blk_drewN ?_ _ | refine blk_drew ?_ | refine blk_alloc ?_ _)); refine blk_far ?_ NB259_264.out _; (with_reducible repeat (first | refine blk_drewN ?_ _ | refine blk_drew ?_ | refine blk_alloc ?_ _)); exact BK259.out⟩
                have n4_ : Aside0 ((((((((w48.setCell ⟨gb264, 0, none⟩ (.int .i64 a1_0)).setCell ⟨gb264, 1, none⟩ (.int .i64 a1_1)).setCell ⟨gb264, 2, none⟩ (.int .i64 a1_2)).setCell ⟨gb264, 3, none⟩ (.int .i64 a1_3)).setCell ⟨gb264, 4, none⟩ (.int .i64 a1_4)).setCell ⟨gb264, 5, none⟩ (.int .i64 a1_5)).setCell ⟨gb264, 5, none⟩ (.int .i64 0)).heap[gb264]? = some (.cells #[.int .i64 a1_0, .int .i64 a1_1, .int .i64 a1_2, .int .i64 a1_3, .int .i64 a1_4, .int .i64 0] 26 (0, 0))) := ⟨by (with_reducible repeat (first | refine blk_drewN ?_ _ | refine blk_drew ?_ | refine blk_alloc ?_ _)); refine blk_put (cs := #[.int .i64 a1_0, .int .i64 a1_1, .int .i64 a1_2, .int .i64 a1_3, .int .i64 a1_4, .int .i64 a1_5]) ?_ 5 _ rfl; (with_reducible repeat (first | refine blk_drewN ?_ _ | refine blk_drew ?_ | refine blk_alloc ?_ _)); refine blk_put (cs := #[.int .i64 a1_0, .int .i64 a1_1, .int .i64 a1_2, .int .i64 a1_3, .int .i64 a1_4, .int .i64 0]) ?_ 5 _ rfl; (with_reducible repeat (first | refine blk_drewN ?_ _ | refine blk_drew ?_ | refine blk_alloc ?_ _)); refine blk_put (cs := #[.int .i64 a1_0, .int .i64 a1_1, .int .i64 a1_2, .int .i64 a1_3, .int .i64 0, .int .i64 0]) ?_ 4 _ rfl; (with_reducible repeat (first | refine blk_drewN ?_ _ | refine blk_drew ?_ | refine blk_alloc ?_ _)); refine blk_put (cs := #[.int .i64 a1_0, .int .i64 a1_1, .int .i64 a1_2, .int .i64 0, .int .i64 0, .int .i64 0]) ?_ 3 _ rfl; (with_reducible repeat (first | refine blk_drewN ?_ _ | refine blk_drew ?_ | refine blk_alloc ?_ _)); refine blk_put (cs := #[.int .i64 a1_0, .int .i64 a1_1, .int .i64 0, .int .i64 0, .int .i64 0, .int .i64 0]) ?_ 2 _ rfl; (with_reducible repeat (first | refine blk_drewN ?_ _ | refine blk_drew ?_ | refine blk_alloc ?_ _)); refine blk_put (cs := #[.int .i64 a1_0, .int .i64 0, .int .i64 0, .int .i64 0, .int .i64 0, .int .i64 0]) ?_ 1 _ rfl; (with_reducible repeat (first | refine blk_drewN ?_ _ | refine blk_drew ?_ | refine blk_alloc ?_ _)); refine blk_put (cs := #[.int .i64 0, .int .i64 0, .int .i64 0, .int .i64 0, .int .i64 0, .int .i64 0]) ?_ 0 _ rfl; (with_reducible repeat (first | refine blk_drewN ?_ _ | refine blk_drew ?_ | refine blk_alloc ?_ _)); exact BK264.out⟩
                have n5_ : Aside0 (Below w.heap.size w (((((((w48.setCell ⟨gb264, 0, none⟩ (.int .i64 a1_0)).setCell ⟨gb264, 1, none⟩ (.int .i64 a1_1)).setCell ⟨gb264, 2, none⟩ (.int .i64 a1_2)).setCell ⟨gb264, 3, none⟩ (.int .i64 a1_3)).setCell ⟨gb264, 4, none⟩ (.int .i64 a1_4)).setCell ⟨gb264, 5, none⟩ (.int .i64 a1_5)).setCell ⟨gb264, 5, none⟩ (.int .i64 0))) := ⟨by repeat (first | (with_reducible first | exact HB.out | apply below_alloc | apply pw_below_drewN | apply below_drew1 | refine below_set ?_ GE252.out | refine below_set ?_ GE253.out | refine below_set ?_ GE259.out | refine below_set ?_ GE264.out) | exact HB.out)⟩
                (try clear HO_260000)
                (try clear BK252)
                (try clear BK253)
                (try clear BK259)
                (try clear BK264)
                (try clear HB)
                generalize (((((((w48.setCell ⟨gb264, 0, none⟩ (.int .i64 a1_0)).setCell ⟨gb264, 1, none⟩ (.int .i64 a1_1)).setCell ⟨gb264, 2, none⟩ (.int .i64 a1_2)).setCell ⟨gb264, 3, none⟩ (.int .i64 a1_3)).setCell ⟨gb264, 4, none⟩ (.int .i64 a1_4)).setCell ⟨gb264, 5, none⟩ (.int .i64 a1_5)).setCell ⟨gb264, 5, none⟩ (.int .i64 0)) = w53 at n0_ n1_ n2_ n3_ n4_ n5_ ⊢
                have HO_260000 := n0_
                have BK252 := n1_
                have BK253 := n2_
                have BK259 := n3_
                have BK264 := n4_
                have HB := n5_
                clear n0_ n1_ n2_ n3_ n4_ n5_
                have n0_ := Aside0.mk (Kd.S_drew HO_260000.out)
                have n1_ := Aside0.mk (blk_drew BK252.out)
                have n2_ := Aside0.mk (blk_drew BK253.out)
                have n3_ := Aside0.mk (blk_drew BK259.out)
                have n4_ := Aside0.mk (blk_drew BK264.out)
                have n5_ := Aside0.mk (below_drew1 HB.out)
                clear HO_260000
                clear BK252
                clear BK253
                clear BK259
                clear BK264
                clear HB
                have HO_260000 := n0_
                have BK252 := n1_
                have BK253 := n2_
                have BK259 := n3_
                have BK264 := n4_
                have HB := n5_
                clear n0_ n1_ n2_ n3_ n4_ n5_
                refine start_ (n := 9) (S := fun w' => w'.cell? ⟨gb259, 0, none⟩ = some (.slice Ao15 t255.length co15) ∧ w'.cell? ⟨gb259, 1, none⟩ = some (.bool t258) ∧ w'.cell? ⟨gb264, 0, none⟩ = some (.int .i64 a1_0) ∧ w'.cell? ⟨gb264, 1, none⟩ = some (.int .i64 a1_1) ∧ w'.cell? ⟨gb264, 2, none⟩ = some (.int .i64 a1_2) ∧ w'.cell? ⟨gb264, 3, none⟩ = some (.int .i64 a1_3) ∧ w'.cell? ⟨gb264, 4, none⟩ = some (.int .i64 a1_4) ∧ w'.cell? ⟨gb264, 5, none⟩ = some (.int .i64 0)) (ds := []) #[false, false, false, false, false, false, false, false, false] (by kernel_rfl) rfl rfl ⟨(blk_cell BK259.out 0).trans rfl, (blk_cell BK259.out 1).trans rfl, (blk_cell BK264.out 0).trans rfl, (blk_cell BK264.out 1).trans rfl, (blk_cell BK264.out 2).trans rfl, (blk_cell BK264.out 3).trans rfl, (blk_cell BK264.out 4).trans rfl, (blk_cell BK264.out 5).trans rfl⟩ (fun hHeld => ?_); refine with_tabW laws_FnSeconds.tab9 laws_FnSeconds.bits9 (fun HT_ HW_ => ?_)
                generalize w53.drew = w54 at HO_260000 BK252 BK253 BK259 BK264 HB hHeld ⊢
                refine take_ (i := 0) (N := some 34) (v := ?_) (a' := ?_) #[true, false, false, false, false, false, false, false, false] rfl rfl (take_ofW HT_.out HW_.out (by kernel_rfl)) (fun _ _ _ h => h) (Or.inl ⟨by rfl, ?_⟩) hHeld ?_ ?_
                rotate_left
                · rintro w' ⟨s0, s1, s2, s3, s4, s5, s6, s7⟩
                  go_simp
                  with_reducible rfl
                rotate_left
                · simp only [Act.put, List.setIfInBounds_toArray, List.set_cons_zero, List.set_cons_succ, i64_w, i32_w]
                  rfl
                refine take_ (i := 2) (N := some 36) (v := ?_) (a' := ?_) #[true, false, true, false, false, false, false, false, false] rfl rfl (take_ofW HT_.out HW_.out (by kernel_rfl)) (fun _ _ _ h => h) (Or.inl ⟨by rfl, ?_⟩) hHeld ?_ ?_
                rotate_left
                · rintro w' ⟨s0, s1, s2, s3, s4, s5, s6, s7⟩
                  go_simp
                  with_reducible rfl
                rotate_left
                · simp only [Act.put, List.setIfInBounds_toArray, List.set_cons_zero, List.set_cons_succ, i64_w, i32_w]
                  rfl
                refine one_ (i := 1) (N := some 35) #[true, true, true, false, false, false, false, false, false] rfl rfl (one_of HT_.out (by kernel_rfl)) (by decide) (fun K hK => ?_)
                refine goes_ Tryz.func15 (by kernel_rfl) rfl #[.agg #[.slice Ao15 t255.length co15, .bool t258]] (by rfl) rfl rfl (by (try simp only [List.map_toArray, List.map_cons, List.map_nil]); first | done | rfl | (simp only [List.length_drop, List.length_take]; rfl)) ?_
                with_reducible refine (spec_Text.calls kj5 _ _ t255 t258 t265 _ ?side1 ?side2 A37.out).mono ?_
                (case side1 => repeat (first | exact (Kd.S_reads' HO_260000.out).2.2 | (with_reducible refine Kd.C_alloc ?_ _) | (with_reducible refine Kd.C_drewN ?_ _) | (with_reducible refine Kd.C_drew ?_)))
                (case side2 => exact (Kd.S_reads' HO_260000.out).2.1)
                rintro e w55 ⟨rfl, hb⟩
                refine ⟨_, rfl, ?_⟩
                have n0_ := Aside0.mk (Kd.S_below (by (with_reducible repeat (first | apply Kd.S_alloc | apply Kd.S_drewN | apply Kd.S_drew)); exact HO_260000.out) hb)
                have n1_ := Aside0.mk (blk_below (g := gb252) (o := .cells #[.slice A0_0 l0_0.length c0_0, .bool a0_1] 24 (0, 0)) (by (with_reducible repeat (first | refine blk_drewN ?_ _ | refine blk_drew ?_ | refine blk_alloc ?_ _)); exact BK252.out) hb)
                have n2_ := Aside0.mk (blk_below (g := gb253) (o := .cells #[.int .i64 a1_0, .int .i64 a1_1, .int .i64 a1_2, .int .i64 a1_3, .int .i64 a1_4, .int .i64 a1_5] 26 (0, 0)) (by (with_reducible repeat (first | refine blk_drewN ?_ _ | refine blk_drew ?_ | refine blk_alloc ?_ _)); exact BK253.out) hb)
                have n3_ := Aside0.mk (blk_below (g := gb259) (o := .cells #[.slice Ao15 t255.length co15, .bool t258] 30 (0, 0)) (by (with_reducible repeat (first | refine blk_drewN ?_ _ | refine blk_drew ?_ | refine blk_alloc ?_ _)); exact BK259.out) hb)
                have n4_ := Aside0.mk (blk_below (g := gb264) (o := .cells #[.int .i64 a1_0, .int .i64 a1_1, .int .i64 a1_2, .int .i64 a1_3, .int .i64 a1_4, .int .i64 0] 26 (0, 0)) (by (with_reducible repeat (first | refine blk_drewN ?_ _ | refine blk_drew ?_ | refine blk_alloc ?_ _)); exact BK264.out) hb)
                have n5_ := Aside0.mk (below_step (by repeat (first | (with_reducible first | exact HB.out | apply below_alloc | apply pw_below_drewN | apply below_drew1 | refine below_set ?_ GE252.out | refine below_set ?_ GE253.out | refine below_set ?_ GE259.out | refine below_set ?_ GE264.out) | exact HB.out)) hb)
                clear HO_260000
                clear BK252
                clear BK253
                clear BK259
                clear BK264
                clear HB
                have HO_260000 := n0_
                have BK252 := n1_
                have BK253 := n2_
                have BK259 := n3_
                have BK264 := n4_
                have HB := n5_
                clear n0_ n1_ n2_ n3_ n4_ n5_
                (try clear hb)
                (try clear hb2)
                (try clear hk)
                (try clear hi)
                refine hK.out _ _ ⟨(blk_cell BK259.out 0).trans rfl, (blk_cell BK259.out 1).trans rfl, (blk_cell BK264.out 0).trans rfl, (blk_cell BK264.out 1).trans rfl, (blk_cell BK264.out 2).trans rfl, (blk_cell BK264.out 3).trans rfl, (blk_cell BK264.out 4).trans rfl, (blk_cell BK264.out 5).trans rfl⟩ (fun hHeld => ?_)
                clear hK K
                refine norm_ (a' := ?_) ?_ ?_
                rotate_left
                · show Act.put _ (some 35) _ = _
                  simp only [Act.put, List.setIfInBounds_toArray, List.set_cons_zero, List.set_cons_succ, i64_w, i32_w]
                  rfl
                refine one_ (i := 3) (N := some 37) #[true, true, true, true, false, false, false, false, false] rfl rfl (one_of HT_.out (by kernel_rfl)) (by decide) (fun K hK => ?_)
                refine goes_ Tryz.func14 (by kernel_rfl) rfl #[.string t265, .agg #[.int .i64 a1_0, .int .i64 a1_1, .int .i64 a1_2, .int .i64 a1_3, .int .i64 a1_4, .int .i64 0]] (by rfl) rfl rfl (by (try simp only [List.map_toArray, List.map_cons, List.map_nil]); first | done | rfl | (simp only [List.length_drop, List.length_take]; rfl)) ?_
                with_reducible refine (impl_Due.calls t265 a1_0 a1_1 a1_2 a1_3 a1_4 0 true true _ A38.out).mono ?_
                rintro e w56 ⟨rfl, hb⟩
                refine ⟨_, rfl, ?_⟩
                have n0_ := Aside0.mk (Kd.S_below (by (with_reducible repeat (first | apply Kd.S_alloc | apply Kd.S_drewN | apply Kd.S_drew)); exact HO_260000.out) hb)
                have n1_ := Aside0.mk (blk_below (g := gb252) (o := .cells #[.slice A0_0 l0_0.length c0_0, .bool a0_1] 24 (0, 0)) (by (with_reducible repeat (first | refine blk_drewN ?_ _ | refine blk_drew ?_ | refine blk_alloc ?_ _)); exact BK252.out) hb)
                have n2_ := Aside0.mk (blk_below (g := gb253) (o := .cells #[.int .i64 a1_0, .int .i64 a1_1, .int .i64 a1_2, .int .i64 a1_3, .int .i64 a1_4, .int .i64 a1_5] 26 (0, 0)) (by (with_reducible repeat (first | refine blk_drewN ?_ _ | refine blk_drew ?_ | refine blk_alloc ?_ _)); exact BK253.out) hb)
                have n3_ := Aside0.mk (blk_below (g := gb259) (o := .cells #[.slice Ao15 t255.length co15, .bool t258] 30 (0, 0)) (by (with_reducible repeat (first | refine blk_drewN ?_ _ | refine blk_drew ?_ | refine blk_alloc ?_ _)); exact BK259.out) hb)
                have n4_ := Aside0.mk (blk_below (g := gb264) (o := .cells #[.int .i64 a1_0, .int .i64 a1_1, .int .i64 a1_2, .int .i64 a1_3, .int .i64 a1_4, .int .i64 0] 26 (0, 0)) (by (with_reducible repeat (first | refine blk_drewN ?_ _ | refine blk_drew ?_ | refine blk_alloc ?_ _)); exact BK264.out) hb)
                have n5_ := Aside0.mk (below_step (by repeat (first | (with_reducible first | exact HB.out | apply below_alloc | apply pw_below_drewN | apply below_drew1 | refine below_set ?_ GE252.out | refine below_set ?_ GE253.out | refine below_set ?_ GE259.out | refine below_set ?_ GE264.out) | exact HB.out)) hb)
                clear HO_260000
                clear BK252
                clear BK253
                clear BK259
                clear BK264
                clear HB
                have HO_260000 := n0_
                have BK252 := n1_
                have BK253 := n2_
                have BK259 := n3_
                have BK264 := n4_
                have HB := n5_
                clear n0_ n1_ n2_ n3_ n4_ n5_
                (try clear hb)
                (try clear hb2)
                (try clear hk)
                (try clear hi)
                refine hK.out _ _ ⟨(blk_cell BK259.out 0).trans rfl, (blk_cell BK259.out 1).trans rfl, (blk_cell BK264.out 0).trans rfl, (blk_cell BK264.out 1).trans rfl, (blk_cell BK264.out 2).trans rfl, (blk_cell BK264.out 3).trans rfl, (blk_cell BK264.out 4).trans rfl, (blk_cell BK264.out 5).trans rfl⟩ (fun hHeld => ?_)
                clear hK K
                refine norm_ (a' := ?_) ?_ ?_
                rotate_left
                · show Act.put _ (some 37) _ = _
                  simp only [Act.put, List.setIfInBounds_toArray, List.set_cons_zero, List.set_cons_succ, i64_w, i32_w]
                  rfl
                refine pure_ (i := 4) (N := some 33) (v := ?_) (a' := ?_) #[true, true, true, true, true, false, false, false, false] rfl rfl (any_of HT_.out (by kernel_rfl)) (fun _ _ _ h => h) (Or.inl ⟨by rfl, ?_⟩) ?_ ?_
                rotate_left
                · intro w'
                  go_simp
                  with_reducible rfl
                rotate_left
                · simp only [Act.put, List.setIfInBounds_toArray, List.set_cons_zero, List.set_cons_succ, i64_w, i32_w]
                  rfl
                refine pure_ (i := 5) (N := some 38) (v := ?_) (a' := ?_) #[true, true, true, true, true, true, false, false, false] rfl rfl (any_of HT_.out (by kernel_rfl)) (fun _ _ _ h => h) (Or.inl ⟨by rfl, ?_⟩) ?_ ?_
                rotate_left
                · intro w'
                  go_simp
                  with_reducible rfl
                rotate_left
                · simp only [Act.put, List.setIfInBounds_toArray, List.set_cons_zero, List.set_cons_succ, i64_w, i32_w]
                  rfl
                refine pure_ (i := 6) (N := some 39) (v := ?_) (a' := ?_) #[true, true, true, true, true, true, true, false, false] rfl rfl (any_of HT_.out (by kernel_rfl)) (fun _ _ _ h => h) (Or.inl ⟨by rfl, ?_⟩) ?_ ?_
                rotate_left
                · intro w'
                  go_simp
                  with_reducible rfl
                rotate_left
                · simp only [Act.put, List.setIfInBounds_toArray, List.set_cons_zero, List.set_cons_succ, i64_w, i32_w]
                  rfl
                refine pure_ (i := 7) (N := some 9) (v := ?_) (a' := ?_) #[true, true, true, true, true, true, true, true, false] rfl rfl (any_of HT_.out (by kernel_rfl)) (fun _ _ _ h => h) (Or.inl ⟨by rfl, ?_⟩) ?_ ?_
                rotate_left
                · intro w'
                  go_simp
                  with_reducible rfl
                rotate_left
                · simp only [Act.put, List.setIfInBounds_toArray, List.set_cons_zero, List.set_cons_succ, i64_w, i32_w]
                  rfl
                refine pure_ (i := 8) (N := some 10) (v := ?_) (a' := ?_) #[true, true, true, true, true, true, true, true, true] rfl rfl (any_of HT_.out (by kernel_rfl)) (fun _ _ _ h => h) (Or.inl ⟨by rfl, ?_⟩) ?_ ?_
                rotate_left
                · intro w'
                  go_simp
                  with_reducible rfl
                rotate_left
                · simp only [Act.put, List.setIfInBounds_toArray, List.set_cons_zero, List.set_cons_succ, i64_w, i32_w]
                  rfl
                refine done_ (done_of HT_.out (by kernel_rfl)) ?_
                have hcz57_0 : w56.cell? ⟨gb253, 0, none⟩ = some (.int .i64 a1_0) := (blk_cell BK253.out 0).trans rfl
                have hcz57_1 : w56.cell? ⟨gb253, 1, none⟩ = some (.int .i64 a1_1) := (blk_cell BK253.out 1).trans rfl
                have hcz57_2 : w56.cell? ⟨gb253, 2, none⟩ = some (.int .i64 a1_2) := (blk_cell BK253.out 2).trans rfl
                have hcz57_3 : w56.cell? ⟨gb253, 3, none⟩ = some (.int .i64 a1_3) := (blk_cell BK253.out 3).trans rfl
                have hcz57_4 : w56.cell? ⟨gb253, 4, none⟩ = some (.int .i64 a1_4) := (blk_cell BK253.out 4).trans rfl
                have hcz57_5 : w56.cell? ⟨gb253, 5, none⟩ = some (.int .i64 a1_5) := (blk_cell BK253.out 5).trans rfl
                have hfz57_0 := blk_frozen BK253.out 0
                have hfz57_1 := blk_frozen BK253.out 1
                have hfz57_2 := blk_frozen BK253.out 2
                have hfz57_3 := blk_frozen BK253.out 3
                have hfz57_4 := blk_frozen BK253.out 4
                have hfz57_5 := blk_frozen BK253.out 5
                try go_wp2
                go_ret
                exact ⟨by first | rfl | (simp [errW_none, errW_some] <;> rfl) | (simp [*, errW_none, errW_some] <;> rfl), by repeat (first | (with_reducible first | exact HB.out | apply below_alloc | apply pw_below_drewN | apply below_drew1 | refine below_set ?_ GE252.out | refine below_set ?_ GE253.out | refine below_set ?_ GE259.out | refine below_set ?_ GE264.out) | exact HB.out)⟩
              · replace c41 := Bool.eq_false_iff.mpr c41
                subst c41
                have H1 : (some (t262 == false)) = some r := by rw [if_neg (show ¬ (false = true) by decide)] at H; exact H
                clear H
                have H := H1
                clear H1
                obtain rfl := Option.some.inj H
                try go_wp2
                have n0_ := Aside0.mk (Kd.S_drew HO_260000.out)
                have n1_ := Aside0.mk (blk_drew BK252.out)
                have n2_ := Aside0.mk (blk_drew BK253.out)
                have n3_ := Aside0.mk (blk_drew BK259.out)
                have n4_ := Aside0.mk (below_drew1 HB.out)
                clear HO_260000
                clear BK252
                clear BK253
                clear BK259
                clear HB
                have HO_260000 := n0_
                have BK252 := n1_
                have BK253 := n2_
                have BK259 := n3_
                have HB := n4_
                clear n0_ n1_ n2_ n3_ n4_
                refine start_ (n := 9) (S := fun w' => w'.cell? ⟨gb259, 0, none⟩ = some (.slice Ao15 t255.length co15) ∧ w'.cell? ⟨gb259, 1, none⟩ = some (.bool t258) ∧ w'.cell? ⟨gb253, 0, none⟩ = some (.int .i64 a1_0) ∧ w'.cell? ⟨gb253, 1, none⟩ = some (.int .i64 a1_1) ∧ w'.cell? ⟨gb253, 2, none⟩ = some (.int .i64 a1_2) ∧ w'.cell? ⟨gb253, 3, none⟩ = some (.int .i64 a1_3) ∧ w'.cell? ⟨gb253, 4, none⟩ = some (.int .i64 a1_4) ∧ w'.cell? ⟨gb253, 5, none⟩ = some (.int .i64 a1_5)) (ds := []) #[false, false, false, false, false, false, false, false, false] (by kernel_rfl) rfl rfl ⟨(blk_cell BK259.out 0).trans rfl, (blk_cell BK259.out 1).trans rfl, (blk_cell BK253.out 0).trans rfl, (blk_cell BK253.out 1).trans rfl, (blk_cell BK253.out 2).trans rfl, (blk_cell BK253.out 3).trans rfl, (blk_cell BK253.out 4).trans rfl, (blk_cell BK253.out 5).trans rfl⟩ (fun hHeld => ?_); refine with_tabW laws_FnSeconds.tab6 laws_FnSeconds.bits6 (fun HT_ HW_ => ?_)
                generalize wc.drew = w58 at HO_260000 BK252 BK253 BK259 HB hHeld ⊢
                refine take_ (i := 0) (N := some 25) (v := ?_) (a' := ?_) #[true, false, false, false, false, false, false, false, false] rfl rfl (take_ofW HT_.out HW_.out (by kernel_rfl)) (fun _ _ _ h => h) (Or.inl ⟨by rfl, ?_⟩) hHeld ?_ ?_
                rotate_left
                · rintro w' ⟨s0, s1, s2, s3, s4, s5, s6, s7⟩
                  go_simp
                  with_reducible rfl
                rotate_left
                · simp only [Act.put, List.setIfInBounds_toArray, List.set_cons_zero, List.set_cons_succ, i64_w, i32_w]
                  rfl
                refine take_ (i := 2) (N := some 27) (v := ?_) (a' := ?_) #[true, false, true, false, false, false, false, false, false] rfl rfl (take_ofW HT_.out HW_.out (by kernel_rfl)) (fun _ _ _ h => h) (Or.inl ⟨by rfl, ?_⟩) hHeld ?_ ?_
                rotate_left
                · rintro w' ⟨s0, s1, s2, s3, s4, s5, s6, s7⟩
                  go_simp
                  with_reducible rfl
                rotate_left
                · simp only [Act.put, List.setIfInBounds_toArray, List.set_cons_zero, List.set_cons_succ, i64_w, i32_w]
                  rfl
                refine one_ (i := 1) (N := some 26) #[true, true, true, false, false, false, false, false, false] rfl rfl (one_of HT_.out (by kernel_rfl)) (by decide) (fun K hK => ?_)
                refine goes_ Tryz.func15 (by kernel_rfl) rfl #[.agg #[.slice Ao15 t255.length co15, .bool t258]] (by rfl) rfl rfl (by (try simp only [List.map_toArray, List.map_cons, List.map_nil]); first | done | rfl | (simp only [List.length_drop, List.length_take]; rfl)) ?_
                with_reducible refine (spec_Text.calls kj5 _ _ t255 t258 t261 _ ?side1 ?side2 A35.out).mono ?_
                (case side1 => repeat (first | exact (Kd.S_reads' HO_260000.out).2.2 | (with_reducible refine Kd.C_alloc ?_ _) | (with_reducible refine Kd.C_drewN ?_ _) | (with_reducible refine Kd.C_drew ?_)))
                (case side2 => exact (Kd.S_reads' HO_260000.out).2.1)
                rintro e w59 ⟨rfl, hb⟩
                refine ⟨_, rfl, ?_⟩
                have n0_ := Aside0.mk (Kd.S_below (by (with_reducible repeat (first | apply Kd.S_alloc | apply Kd.S_drewN | apply Kd.S_drew)); exact HO_260000.out) hb)
                have n1_ := Aside0.mk (blk_below (g := gb252) (o := .cells #[.slice A0_0 l0_0.length c0_0, .bool a0_1] 24 (0, 0)) (by (with_reducible repeat (first | refine blk_drewN ?_ _ | refine blk_drew ?_ | refine blk_alloc ?_ _)); exact BK252.out) hb)
                have n2_ := Aside0.mk (blk_below (g := gb253) (o := .cells #[.int .i64 a1_0, .int .i64 a1_1, .int .i64 a1_2, .int .i64 a1_3, .int .i64 a1_4, .int .i64 a1_5] 26 (0, 0)) (by (with_reducible repeat (first | refine blk_drewN ?_ _ | refine blk_drew ?_ | refine blk_alloc ?_ _)); exact BK253.out) hb)
                have n3_ := Aside0.mk (blk_below (g := gb259) (o := .cells #[.slice Ao15 t255.length co15, .bool t258] 30 (0, 0)) (by (with_reducible repeat (first | refine blk_drewN ?_ _ | refine blk_drew ?_ | refine blk_alloc ?_ _)); exact BK259.out) hb)
                have n4_ := Aside0.mk (below_step (by repeat (first | (with_reducible first | exact HB.out | apply below_alloc | apply pw_below_drewN | apply below_drew1 | refine below_set ?_ GE252.out | refine below_set ?_ GE253.out | refine below_set ?_ GE259.out) | exact HB.out)) hb)
                clear HO_260000
                clear BK252
                clear BK253
                clear BK259
                clear HB
                have HO_260000 := n0_
                have BK252 := n1_
                have BK253 := n2_
                have BK259 := n3_
                have HB := n4_
                clear n0_ n1_ n2_ n3_ n4_
                (try clear hb)
                (try clear hb2)
                (try clear hk)
                (try clear hi)
                refine hK.out _ _ ⟨(blk_cell BK259.out 0).trans rfl, (blk_cell BK259.out 1).trans rfl, (blk_cell BK253.out 0).trans rfl, (blk_cell BK253.out 1).trans rfl, (blk_cell BK253.out 2).trans rfl, (blk_cell BK253.out 3).trans rfl, (blk_cell BK253.out 4).trans rfl, (blk_cell BK253.out 5).trans rfl⟩ (fun hHeld => ?_)
                clear hK K
                refine norm_ (a' := ?_) ?_ ?_
                rotate_left
                · show Act.put _ (some 26) _ = _
                  simp only [Act.put, List.setIfInBounds_toArray, List.set_cons_zero, List.set_cons_succ, i64_w, i32_w]
                  rfl
                refine one_ (i := 3) (N := some 28) #[true, true, true, true, false, false, false, false, false] rfl rfl (one_of HT_.out (by kernel_rfl)) (by decide) (fun K hK => ?_)
                refine goes_ Tryz.func14 (by kernel_rfl) rfl #[.string t261, .agg #[.int .i64 a1_0, .int .i64 a1_1, .int .i64 a1_2, .int .i64 a1_3, .int .i64 a1_4, .int .i64 a1_5]] (by rfl) rfl rfl (by (try simp only [List.map_toArray, List.map_cons, List.map_nil]); first | done | rfl | (simp only [List.length_drop, List.length_take]; rfl)) ?_
                with_reducible refine (impl_Due.calls t261 a1_0 a1_1 a1_2 a1_3 a1_4 a1_5 t262 true _ A36.out).mono ?_
                rintro e w60 ⟨rfl, hb⟩
                refine ⟨_, rfl, ?_⟩
                have n0_ := Aside0.mk (Kd.S_below (by (with_reducible repeat (first | apply Kd.S_alloc | apply Kd.S_drewN | apply Kd.S_drew)); exact HO_260000.out) hb)
                have n1_ := Aside0.mk (blk_below (g := gb252) (o := .cells #[.slice A0_0 l0_0.length c0_0, .bool a0_1] 24 (0, 0)) (by (with_reducible repeat (first | refine blk_drewN ?_ _ | refine blk_drew ?_ | refine blk_alloc ?_ _)); exact BK252.out) hb)
                have n2_ := Aside0.mk (blk_below (g := gb253) (o := .cells #[.int .i64 a1_0, .int .i64 a1_1, .int .i64 a1_2, .int .i64 a1_3, .int .i64 a1_4, .int .i64 a1_5] 26 (0, 0)) (by (with_reducible repeat (first | refine blk_drewN ?_ _ | refine blk_drew ?_ | refine blk_alloc ?_ _)); exact BK253.out) hb)
                have n3_ := Aside0.mk (blk_below (g := gb259) (o := .cells #[.slice Ao15 t255.length co15, .bool t258] 30 (0, 0)) (by (with_reducible repeat (first | refine blk_drewN ?_ _ | refine blk_drew ?_ | refine blk_alloc ?_ _)); exact BK259.out) hb)
                have n4_ := Aside0.mk (below_step (by repeat (first | (with_reducible first | exact HB.out | apply below_alloc | apply pw_below_drewN | apply below_drew1 | refine below_set ?_ GE252.out | refine below_set ?_ GE253.out | refine below_set ?_ GE259.out) | exact HB.out)) hb)
                clear HO_260000
                clear BK252
                clear BK253
                clear BK259
                clear HB
                have HO_260000 := n0_
                have BK252 := n1_
                have BK253 := n2_
                have BK259 := n3_
                have HB := n4_
                clear n0_ n1_ n2_ n3_ n4_
                (try clear hb)
                (try clear hb2)
                (try clear hk)
                (try clear hi)
                refine hK.out _ _ ⟨(blk_cell BK259.out 0).trans rfl, (blk_cell BK259.out 1).trans rfl, (blk_cell BK253.out 0).trans rfl, (blk_cell BK253.out 1).trans rfl, (blk_cell BK253.out 2).trans rfl, (blk_cell BK253.out 3).trans rfl, (blk_cell BK253.out 4).trans rfl, (blk_cell BK253.out 5).trans rfl⟩ (fun hHeld => ?_)
                clear hK K
                refine norm_ (a' := ?_) ?_ ?_
                rotate_left
                · show Act.put _ (some 28) _ = _
                  simp only [Act.put, List.setIfInBounds_toArray, List.set_cons_zero, List.set_cons_succ, i64_w, i32_w]
                  rfl
                refine pure_ (i := 4) (N := some 24) (v := ?_) (a' := ?_) #[true, true, true, true, true, false, false, false, false] rfl rfl (any_of HT_.out (by kernel_rfl)) (fun _ _ _ h => h) (Or.inl ⟨by rfl, ?_⟩) ?_ ?_
                rotate_left
                · intro w'
                  go_simp
                  with_reducible rfl
                rotate_left
                · simp only [Act.put, List.setIfInBounds_toArray, List.set_cons_zero, List.set_cons_succ, i64_w, i32_w]
                  rfl
                refine pure_ (i := 5) (N := some 29) (v := ?_) (a' := ?_) #[true, true, true, true, true, true, false, false, false] rfl rfl (any_of HT_.out (by kernel_rfl)) (fun _ _ _ h => h) (Or.inl ⟨by rfl, ?_⟩) ?_ ?_
                rotate_left
                · intro w'
                  go_simp
                  with_reducible rfl
                rotate_left
                · simp only [Act.put, List.setIfInBounds_toArray, List.set_cons_zero, List.set_cons_succ, i64_w, i32_w]
                  rfl
                refine pure_ (i := 6) (N := some 30) (v := ?_) (a' := ?_) #[true, true, true, true, true, true, true, false, false] rfl rfl (any_of HT_.out (by kernel_rfl)) (fun _ _ _ h => h) (Or.inl ⟨by rfl, ?_⟩) ?_ ?_
                rotate_left
                · intro w'
                  go_simp
                  with_reducible rfl
                rotate_left
                · simp only [Act.put, List.setIfInBounds_toArray, List.set_cons_zero, List.set_cons_succ, i64_w, i32_w]
                  rfl
                refine pure_ (i := 7) (N := some 6) (v := ?_) (a' := ?_) #[true, true, true, true, true, true, true, true, false] rfl rfl (any_of HT_.out (by kernel_rfl)) (fun _ _ _ h => h) (Or.inl ⟨by rfl, ?_⟩) ?_ ?_
                rotate_left
                · intro w'
                  go_simp
                  with_reducible rfl
                rotate_left
                · simp only [Act.put, List.setIfInBounds_toArray, List.set_cons_zero, List.set_cons_succ, i64_w, i32_w]
                  rfl
                refine pure_ (i := 8) (N := some 7) (v := ?_) (a' := ?_) #[true, true, true, true, true, true, true, true, true] rfl rfl (any_of HT_.out (by kernel_rfl)) (fun _ _ _ h => h) (Or.inl ⟨by rfl, ?_⟩) ?_ ?_
                rotate_left
                · intro w'
                  go_simp
                  with_reducible rfl
                rotate_left
                · simp only [Act.put, List.setIfInBounds_toArray, List.set_cons_zero, List.set_cons_succ, i64_w, i32_w]
                  rfl
                refine done_ (done_of HT_.out (by kernel_rfl)) ?_
                have hnb61 := NB253_252.out
                have hnc61 := NB252_253.out
                have hnb62 := NB253_259.out
                have hnc62 := NB259_253.out
                have hcz63_0 : w60.cell? ⟨gb253, 0, none⟩ = some (.int .i64 a1_0) := (blk_cell BK253.out 0).trans rfl
                have hcz63_1 : w60.cell? ⟨gb253, 1, none⟩ = some (.int .i64 a1_1) := (blk_cell BK253.out 1).trans rfl
                have hcz63_2 : w60.cell? ⟨gb253, 2, none⟩ = some (.int .i64 a1_2) := (blk_cell BK253.out 2).trans rfl
                have hcz63_3 : w60.cell? ⟨gb253, 3, none⟩ = some (.int .i64 a1_3) := (blk_cell BK253.out 3).trans rfl
                have hcz63_4 : w60.cell? ⟨gb253, 4, none⟩ = some (.int .i64 a1_4) := (blk_cell BK253.out 4).trans rfl
                have hcz63_5 : w60.cell? ⟨gb253, 5, none⟩ = some (.int .i64 a1_5) := (blk_cell BK253.out 5).trans rfl
                have hfz63_0 := blk_frozen BK253.out 0
                have hfz63_1 := blk_frozen BK253.out 1
                have hfz63_2 := blk_frozen BK253.out 2
                have hfz63_3 := blk_frozen BK253.out 3
                have hfz63_4 := blk_frozen BK253.out 4
                have hfz63_5 := blk_frozen BK253.out 5
                try go_wp2_with (first | ((with_reducible refine gate_dst (N := 8) rfl ?_); refine box_event ?hg (N := 8) ?hd (cs := #[.int .i64 0, .int .i64 0, .int .i64 0, .int .i64 0, .int .i64 0, .int .i64 0]) (t := 26) ?hr ?_; (case hd => rfl); (case hg => rfl); (case hr => first | (go_simp; done) | (go_simp; rfl)); intro gb264 hg w64 hbox hb; have n0_ := Aside0.mk (Kd.S_below (by (with_reducible repeat (first | apply Kd.S_alloc | apply Kd.S_drewN | apply Kd.S_drew)); exact HO_260000.out) hb); have n1_ := Aside0.mk (blk_below (g := gb252) (o := .cells #[.slice A0_0 l0_0.length c0_0, .bool a0_1] 24 (0, 0)) (by (with_reducible repeat (first | refine blk_drewN ?_ _ | refine blk_drew ?_ | refine blk_alloc ?_ _)); exact BK252.out) hb); have n2_ := Aside0.mk (blk_below (g := gb253) (o := .cells #[.int .i64 a1_0, .int .i64 a1_1, .int .i64 a1_2, .int .i64 a1_3, .int .i64 a1_4, .int .i64 a1_5] 26 (0, 0)) (by (with_reducible repeat (first | refine blk_drewN ?_ _ | refine blk_drew ?_ | refine blk_alloc ?_ _)); exact BK253.out) hb); have n3_ := Aside0.mk (blk_below (g := gb259) (o := .cells #[.slice Ao15 t255.length co15, .bool t258] 30 (0, 0)) (by (with_reducible repeat (first | refine blk_drewN ?_ _ | refine blk_drew ?_ | refine blk_alloc ?_ _)); exact BK259.out) hb); have n4_ := Aside0.mk (below_step (by repeat (first | (with_reducible first | exact HB.out | apply below_alloc | apply pw_below_drewN | apply below_drew1 | refine below_set ?_ GE252.out | refine below_set ?_ GE253.out | refine below_set ?_ GE259.out) | exact HB.out)) hb); have n5_ := Aside0.mk (hbox); have n6_ := Aside0.mk ((by rw [hg]; exact (below_size (by repeat (first | (with_reducible first | exact HB.out | apply below_alloc | apply pw_below_drewN | apply below_drew1 | refine below_set ?_ GE252.out | refine below_set ?_ GE253.out | refine below_set ?_ GE259.out) | exact HB.out))) : w.heap.size ≤ gb264)); have n7_ := Aside0.mk ((by rw [hg]; exact (below_size (by repeat (first | (with_reducible first | exact HB.out | apply below_alloc | apply pw_below_drewN | apply below_drew1 | refine below_set ?_ GE252.out | refine below_set ?_ GE253.out | refine below_set ?_ GE259.out) | exact HB.out))) : w.heap.size ≤ gb264)); have n8_ := Aside0.mk ((by rw [hg]; exact Nat.ne_of_lt (blk_lt (g := gb252) (o := .cells #[.slice A0_0 l0_0.length c0_0, .bool a0_1] 24 (0, 0)) (by (with_reducible repeat (first | refine blk_drewN ?_ _ | refine blk_drew ?_ | refine blk_alloc ?_ _)); exact BK252.out)) : gb252 ≠ gb264)); have n9_ := Aside0.mk ((by rw [hg]; exact Nat.ne_of_gt (blk_lt (g := gb252) (o := .cells #[.slice A0_0 l0_0.length c0_0, .bool a0_1] 24 (0, 0)) (by (with_reducible repeat (first | refine blk_drewN ?_ _ | refine blk_drew ?_ | refine blk_alloc ?_ _)); exact BK252.out)) : gb264 ≠ gb252)); have n10_ := Aside0.mk ((by rw [hg]; exact Nat.ne_of_lt (blk_lt (g := gb253) (o := .cells #[.int .i64 a1_0, .int .i64 a1_1, .int .i64 a1_2, .int .i64 a1_3, .int .i64 a1_4, .int .i64 a1_5] 26 (0, 0)) (by (with_reducible repeat (first | refine blk_drewN ?_ _ | refine blk_drew ?_ | refine blk_alloc ?_ _)); exact BK253.out)) : gb253 ≠ gb264)); have n11_ := Aside0.mk ((by rw [hg]; exact Nat.ne_of_gt (blk_lt (g := gb253) (o := .cells #[.int .i64 a1_0, .int .i64 a1_1, .int .i64 a1_2, .int .i64 a1_3, .int .i64 a1_4, .int .i64 a1_5] 26 (0, 0)) (by (with_reducible repeat (first | refine blk_drewN ?_ _ | refine blk_drew ?_ | refine blk_alloc ?_ _)); exact BK253.out)) : gb264 ≠ gb253)); have n12_ := Aside0.mk ((by rw [hg]; exact Nat.ne_of_lt (blk_lt (g := gb259) (o := .cells #[.slice Ao15 t255.length co15, .bool t258] 30 (0, 0)) (by (with_reducible repeat (first | refine blk_drewN ?_ _ | refine blk_drew ?_ | refine blk_alloc ?_ _)); exact BK259.out)) : gb259 ≠ gb264)); have n13_ := Aside0.mk ((by rw [hg]; exact Nat.ne_of_gt (blk_lt (g := gb259) (o := .cells #[.slice Ao15 t255.length co15, .bool t258] 30 (0, 0)) (by (with_reducible repeat (first | refine blk_drewN ?_ _ | refine blk_drew ?_ | refine blk_alloc ?_ _)); exact BK259.out)) : gb264 ≠ gb259)); clear HO_260000; clear BK252; clear BK253; clear BK259; clear HB; have HO_260000 := n0_; have BK252 := n1_; have BK253 := n2_; have BK259 := n3_; have HB := n4_; have BK264 := n5_; have GW264 := n6_; have GE264 := n7_; have NB252_264 := n8_; have NB264_252 := n9_; have NB253_264 := n10_; have NB264_253 := n11_; have NB259_264 := n12_; have NB264_259 := n13_; clear n0_ n1_ n2_ n3_ n4_ n5_ n6_ n7_ n8_ n9_ n10_ n11_ n12_ n13_; clear hb hbox hg; have hnb65 := NB264_252.out; have hnc65 := NB252_264.out; have hnb66 := NB264_253.out; have hnc66 := NB253_264.out; have hnb67 := NB264_259.out; have hnc67 := NB259_264.out; have hcz68_0 : w64.cell? ⟨gb264, 0, none⟩ = some (.int .i64 0) := (blk_cell BK264.out 0).trans rfl; have hcz68_1 : w64.cell? ⟨gb264, 1, none⟩ = some (.int .i64 0) := (blk_cell BK264.out 1).trans rfl; have hcz68_2 : w64.cell? ⟨gb264, 2, none⟩ = some (.int .i64 0) := (blk_cell BK264.out 2).trans rfl; have hcz68_3 : w64.cell? ⟨gb264, 3, none⟩ = some (.int .i64 0) := (blk_cell BK264.out 3).trans rfl; have hcz68_4 : w64.cell? ⟨gb264, 4, none⟩ = some (.int .i64 0) := (blk_cell BK264.out 4).trans rfl; have hcz68_5 : w64.cell? ⟨gb264, 5, none⟩ = some (.int .i64 0) := (blk_cell BK264.out 5).trans rfl; have hfz68_0 := blk_frozen BK264.out 0; have hfz68_1 := blk_frozen BK264.out 1; have hfz68_2 := blk_frozen BK264.out 2; have hfz68_3 := blk_frozen BK264.out 3; have hfz68_4 := blk_frozen BK264.out 4; have hfz68_5 := blk_frozen BK264.out 5))
                have n0_ : Aside0 (Kd.S (Kd.slice 38 k38) 36 (((((((w64.setCell ⟨gb264, 0, none⟩ (.int .i64 a1_0)).setCell ⟨gb264, 1, none⟩ (.int .i64 a1_1)).setCell ⟨gb264, 2, none⟩ (.int .i64 a1_2)).setCell ⟨gb264, 3, none⟩ (.int .i64 a1_3)).setCell ⟨gb264, 4, none⟩ (.int .i64 a1_4)).setCell ⟨gb264, 5, none⟩ (.int .i64 a1_5)).setCell ⟨gb264, 5, none⟩ (.int .i64 0)) w.heap.size (fun _ => True) (.slice Ao15 t255.length co15) t255) := ⟨by (with_reducible repeat (first | apply Kd.S_alloc | apply Kd.S_drewN | apply Kd.S_drew)); exact Kd.S_mono (Kd.S_far (p := ⟨gb264, 5, none⟩) (Kd.S_far (p := ⟨gb264, 5, none⟩) (Kd.S_far (p := ⟨gb264, 4, none⟩) (Kd.S_far (p := ⟨gb264, 3, none⟩) (Kd.S_far (p := ⟨gb264, 2, none⟩) (Kd.S_far (p := ⟨gb264, 1, none⟩) (Kd.S_far (p := ⟨gb264, 0, none⟩) (Kd.S_types HO_260000.out BK264.out (by decide)) (fun _ hk => hk.2) (.int .i64 a1_0)) (fun _ hk => hk.2) (.int .i64 a1_1)) (fun _ hk => hk.2) (.int .i64 a1_2)) (fun _ hk => hk.2) (.int .i64 a1_3)) (fun _ hk => hk.2) (.int .i64 a1_4)) (fun _ hk => hk.2) (.int .i64 a1_5)) (fun _ hk => hk.2) (.int .i64 0)) (fun _ hk => trivial)⟩
                have n1_ : Aside0 ((((((((w64.setCell ⟨gb264, 0, none⟩ (.int .i64 a1_0)).setCell ⟨gb264, 1, none⟩ (.int .i64 a1_1)).setCell ⟨gb264, 2, none⟩ (.int .i64 a1_2)).setCell ⟨gb264, 3, none⟩ (.int .i64 a1_3)).setCell ⟨gb264, 4, none⟩ (.int .i64 a1_4)).setCell ⟨gb264, 5, none⟩ (.int .i64 a1_5)).setCell ⟨gb264, 5, none⟩ (.int .i64 0)).heap[gb252]? = some (.cells #[.slice A0_0 l0_0.length c0_0, .bool a0_1] 24 (0, 0))) := ⟨by (with_reducible repeat (first | refine blk_drewN ?_ _ | refine blk_drew ?_ | refine blk_alloc ?_ _)); refine blk_far ?_ NB252_264.out _; (with_reducible repeat (first | refine blk_drewN ?_ _ | refine blk_drew ?_ | refine blk_alloc ?_ _)); refine blk_far ?_ NB252_264.out _; (with_reducible repeat (first | refine blk_drewN ?_ _ | refine blk_drew ?_ | refine blk_alloc ?_ _)); refine blk_far ?_ NB252_264.out _; (with_reducible repeat (first | refine blk_drewN ?_ _ | refine blk_drew ?_ | refine blk_alloc ?_ _)); refine blk_far ?_ NB252_264.out _; (with_reducible repeat (first | refine blk_drewN ?_ _ | refine blk_drew ?_ | refine blk_alloc ?_ _)); refine blk_far ?_ NB252_264.out _; (with_reducible repeat (first | refine blk_drewN ?_ _ | refine blk_drew ?_ | refine blk_alloc ?_ _)); refine blk_far ?_ NB252_264.out _; (with_reducible repeat (first | refine blk_drewN ?_ _ | refine blk_drew ?_ | refine blk_alloc ?_ _)); refine blk_far ?_ NB252_264.out _; (with_reducible repeat (first | refine blk_drewN ?_ _ | refine blk_drew ?_ | refine blk_alloc ?_ _)); exact BK252.out⟩
                have n2_ : Aside0 ((((((((w64.setCell ⟨gb264, 0, none⟩ (.int .i64 a1_0)).setCell ⟨gb264, 1, none⟩ (.int .i64 a1_1)).setCell ⟨gb264, 2, none⟩ (.int .i64 a1_2)).setCell ⟨gb264, 3, none⟩ (.int .i64 a1_3)).setCell ⟨gb264, 4, none⟩ (.int .i64 a1_4)).setCell ⟨gb264, 5, none⟩ (.int .i64 a1_5)).setCell ⟨gb264, 5, none⟩ (.int .i64 0)).heap[gb253]? = some (.cells #[.int .i64 a1_0, .int .i64 a1_1, .int .i64 a1_2, .int .i64 a1_3, .int .i64 a1_4, .int .i64 a1_5] 26 (0, 0))) := ⟨by (with_reducible repeat (first | refine blk_drewN ?_ _ | refine blk_drew ?_ | refine blk_alloc ?_ _)); refine blk_far ?_ NB253_264.out _; (with_reducible repeat (first | refine blk_drewN ?_ _ | refine blk_drew ?_ | refine blk_alloc ?_ _)); refine blk_far ?_ NB253_264.out _; (with_reducible repeat (first | refine blk_drewN ?_ _ | refine blk_drew ?_ | refine blk_alloc ?_ _)); refine blk_far ?_ NB253_264.out _; (with_reducible repeat (first | refine blk_drewN ?_ _ | refine blk_drew ?_ | refine blk_alloc ?_ _)); refine blk_far ?_ NB253_264.out _; (with_reducible repeat (first | refine blk_drewN ?_ _ | refine blk_drew ?_ | refine blk_alloc ?_ _)); refine blk_far ?_ NB253_264.out _; (with_reducible repeat (first | refine blk_drewN ?_ _ | refine blk_drew ?_ | refine blk_alloc ?_ _)); refine blk_far ?_ NB253_264.out _; (with_reducible repeat (first | refine blk_drewN ?_ _ | refine blk_drew ?_ | refine blk_alloc ?_ _)); refine blk_far ?_ NB253_264.out _; (with_reducible repeat (first | refine blk_drewN ?_ _ | refine blk_drew ?_ | refine blk_alloc ?_ _)); exact BK253.out⟩
                have n3_ : Aside0 ((((((((w64.setCell ⟨gb264, 0, none⟩ (.int .i64 a1_0)).setCell ⟨gb264, 1, none⟩ (.int .i64 a1_1)).setCell ⟨gb264, 2, none⟩ (.int .i64 a1_2)).setCell ⟨gb264, 3, none⟩ (.int .i64 a1_3)).setCell ⟨gb264, 4, none⟩ (.int .i64 a1_4)).setCell ⟨gb264, 5, none⟩ (.int .i64 a1_5)).setCell ⟨gb264, 5, none⟩ (.int .i64 0)).heap[gb259]? = some (.cells #[.slice Ao15 t255.length co15, .bool t258] 30 (0, 0))) := ⟨by (with_reducible repeat (first | refine blk_drewN ?_ _ | refine blk_drew ?_ | refine blk_alloc ?_ _)); refine blk_far ?_ NB259_264.out _; (with_reducible repeat (first | refine blk_drewN ?_ _ | refine blk_drew ?_ | refine blk_alloc ?_ _)); refine blk_far ?_ NB259_264.out _; (with_reducible repeat (first | refine blk_drewN ?_ _ | refine blk_drew ?_ | refine blk_alloc ?_ _)); refine blk_far ?_ NB259_264.out _; (with_reducible repeat (first | refine blk_drewN ?_ _ | refine blk_drew ?_ | refine blk_alloc ?_ _)); refine blk_far ?_ NB259_264.out _; (with_reducible repeat (first | refine blk_drewN ?_ _ | refine blk_drew ?_ | refine blk_alloc ?_ _)); refine blk_far ?_ NB259_264.out _; (with_reducible repeat (first | refine blk_drewN ?_ _ | refine blk_drew ?_ | refine blk_alloc ?_ _)); refine blk_far ?_ NB259_264.out _; (with_reducible repeat (first | refine blk_drewN ?_ _ | refine blk_drew ?_ | refine blk_alloc ?_ _)); refine blk_far ?_ NB259_264.out _; (with_reducible repeat (first | refine blk_drewN ?_ _ | refine blk_drew ?_ | refine blk_alloc ?_ _)); exact BK259.out⟩
                have n4_ : Aside0 ((((((((w64.setCell ⟨gb264, 0, none⟩ (.int .i64 a1_0)).setCell ⟨gb264, 1, none⟩ (.int .i64 a1_1)).setCell ⟨gb264, 2, none⟩ (.int .i64 a1_2)).setCell ⟨gb264, 3, none⟩ (.int .i64 a1_3)).setCell ⟨gb264, 4, none⟩ (.int .i64 a1_4)).setCell ⟨gb264, 5, none⟩ (.int .i64 a1_5)).setCell ⟨gb264, 5, none⟩ (.int .i64 0)).heap[gb264]? = some (.cells #[.int .i64 a1_0, .int .i64 a1_1, .int .i64 a1_2, .int .i64 a1_3, .int .i64 a1_4, .int .i64 0] 26 (0, 0))) := ⟨by (with_reducible repeat (first | refine blk_drewN ?_ _ | refine blk_drew ?_ | refine blk_alloc ?_ _)); refine blk_put (cs := #[.int .i64 a1_0, .int .i64 a1_1, .int .i64 a1_2, .int .i64 a1_3, .int .i64 a1_4, .int .i64 a1_5]) ?_ 5 _ rfl; (with_reducible repeat (first | refine blk_drewN ?_ _ | refine blk_drew ?_ | refine blk_alloc ?_ _)); refine blk_put (cs := #[.int .i64 a1_0, .int .i64 a1_1, .int .i64 a1_2, .int .i64 a1_3, .int .i64 a1_4, .int .i64 0]) ?_ 5 _ rfl; (with_reducible repeat (first | refine blk_drewN ?_ _ | refine blk_drew ?_ | refine blk_alloc ?_ _)); refine blk_put (cs := #[.int .i64 a1_0, .int .i64 a1_1, .int .i64 a1_2, .int .i64 a1_3, .int .i64 0, .int .i64 0]) ?_ 4 _ rfl; (with_reducible repeat (first | refine blk_drewN ?_ _ | refine blk_drew ?_ | refine blk_alloc ?_ _)); refine blk_put (cs := #[.int .i64 a1_0, .int .i64 a1_1, .int .i64 a1_2, .int .i64 0, .int .i64 0, .int .i64 0]) ?_ 3 _ rfl; (with_reducible repeat (first | refine blk_drewN ?_ _ | refine blk_drew ?_ | refine blk_alloc ?_ _)); refine blk_put (cs := #[.int .i64 a1_0, .int .i64 a1_1, .int .i64 0, .int .i64 0, .int .i64 0, .int .i64 0]) ?_ 2 _ rfl; (with_reducible repeat (first | refine blk_drewN ?_ _ | refine blk_drew ?_ | refine blk_alloc ?_ _)); refine blk_put (cs := #[.int .i64 a1_0, .int .i64 0, .int .i64 0, .int .i64 0, .int .i64 0, .int .i64 0]) ?_ 1 _ rfl; (with_reducible repeat (first | refine blk_drewN ?_ _ | refine blk_drew ?_ | refine blk_alloc ?_ _)); refine blk_put (cs := #[.int .i64 0, .int .i64 0, .int .i64 0, .int .i64 0, .int .i64 0, .int .i64 0]) ?_ 0 _ rfl; (with_reducible repeat (first | refine blk_drewN ?_ _ | refine blk_drew ?_ | refine blk_alloc ?_ _)); exact BK264.out⟩
                have n5_ : Aside0 (Below w.heap.size w (((((((w64.setCell ⟨gb264, 0, none⟩ (.int .i64 a1_0)).setCell ⟨gb264, 1, none⟩ (.int .i64 a1_1)).setCell ⟨gb264, 2, none⟩ (.int .i64 a1_2)).setCell ⟨gb264, 3, none⟩ (.int .i64 a1_3)).setCell ⟨gb264, 4, none⟩ (.int .i64 a1_4)).setCell ⟨gb264, 5, none⟩ (.int .i64 a1_5)).setCell ⟨gb264, 5, none⟩ (.int .i64 0))) := ⟨by repeat (first | (with_reducible first | exact HB.out | apply below_alloc | apply pw_below_drewN | apply below_drew1 | refine below_set ?_ GE252.out | refine below_set ?_ GE253.out | refine below_set ?_ GE259.out | refine below_set ?_ GE264.out) | exact HB.out)⟩
                (try clear HO_260000)
                (try clear BK252)
                (try clear BK253)
                (try clear BK259)
                (try clear BK264)
                (try clear HB)
                generalize (((((((w64.setCell ⟨gb264, 0, none⟩ (.int .i64 a1_0)).setCell ⟨gb264, 1, none⟩ (.int .i64 a1_1)).setCell ⟨gb264, 2, none⟩ (.int .i64 a1_2)).setCell ⟨gb264, 3, none⟩ (.int .i64 a1_3)).setCell ⟨gb264, 4, none⟩ (.int .i64 a1_4)).setCell ⟨gb264, 5, none⟩ (.int .i64 a1_5)).setCell ⟨gb264, 5, none⟩ (.int .i64 0)) = w69 at n0_ n1_ n2_ n3_ n4_ n5_ ⊢
                have HO_260000 := n0_
                have BK252 := n1_
                have BK253 := n2_
                have BK259 := n3_
                have BK264 := n4_
                have HB := n5_
                clear n0_ n1_ n2_ n3_ n4_ n5_
                have n0_ := Aside0.mk (Kd.S_drew HO_260000.out)
                have n1_ := Aside0.mk (blk_drew BK252.out)
                have n2_ := Aside0.mk (blk_drew BK253.out)
                have n3_ := Aside0.mk (blk_drew BK259.out)
                have n4_ := Aside0.mk (blk_drew BK264.out)
                have n5_ := Aside0.mk (below_drew1 HB.out)
                clear HO_260000
                clear BK252
                clear BK253
                clear BK259
                clear BK264
                clear HB
                have HO_260000 := n0_
                have BK252 := n1_
                have BK253 := n2_
                have BK259 := n3_
                have BK264 := n4_
                have HB := n5_
                clear n0_ n1_ n2_ n3_ n4_ n5_
                refine start_ (n := 9) (S := fun w' => w'.cell? ⟨gb259, 0, none⟩ = some (.slice Ao15 t255.length co15) ∧ w'.cell? ⟨gb259, 1, none⟩ = some (.bool t258) ∧ w'.cell? ⟨gb264, 0, none⟩ = some (.int .i64 a1_0) ∧ w'.cell? ⟨gb264, 1, none⟩ = some (.int .i64 a1_1) ∧ w'.cell? ⟨gb264, 2, none⟩ = some (.int .i64 a1_2) ∧ w'.cell? ⟨gb264, 3, none⟩ = some (.int .i64 a1_3) ∧ w'.cell? ⟨gb264, 4, none⟩ = some (.int .i64 a1_4) ∧ w'.cell? ⟨gb264, 5, none⟩ = some (.int .i64 0)) (ds := []) #[false, false, false, false, false, false, false, false, false] (by kernel_rfl) rfl rfl ⟨(blk_cell BK259.out 0).trans rfl, (blk_cell BK259.out 1).trans rfl, (blk_cell BK264.out 0).trans rfl, (blk_cell BK264.out 1).trans rfl, (blk_cell BK264.out 2).trans rfl, (blk_cell BK264.out 3).trans rfl, (blk_cell BK264.out 4).trans rfl, (blk_cell BK264.out 5).trans rfl⟩ (fun hHeld => ?_); refine with_tabW laws_FnSeconds.tab9 laws_FnSeconds.bits9 (fun HT_ HW_ => ?_)
                generalize w69.drew = w70 at HO_260000 BK252 BK253 BK259 BK264 HB hHeld ⊢
                refine take_ (i := 0) (N := some 34) (v := ?_) (a' := ?_) #[true, false, false, false, false, false, false, false, false] rfl rfl (take_ofW HT_.out HW_.out (by kernel_rfl)) (fun _ _ _ h => h) (Or.inl ⟨by rfl, ?_⟩) hHeld ?_ ?_
                rotate_left
                · rintro w' ⟨s0, s1, s2, s3, s4, s5, s6, s7⟩
                  go_simp
                  with_reducible rfl
                rotate_left
                · simp only [Act.put, List.setIfInBounds_toArray, List.set_cons_zero, List.set_cons_succ, i64_w, i32_w]
                  rfl
                refine take_ (i := 2) (N := some 36) (v := ?_) (a' := ?_) #[true, false, true, false, false, false, false, false, false] rfl rfl (take_ofW HT_.out HW_.out (by kernel_rfl)) (fun _ _ _ h => h) (Or.inl ⟨by rfl, ?_⟩) hHeld ?_ ?_
                rotate_left
                · rintro w' ⟨s0, s1, s2, s3, s4, s5, s6, s7⟩
                  go_simp
                  with_reducible rfl
                rotate_left
                · simp only [Act.put, List.setIfInBounds_toArray, List.set_cons_zero, List.set_cons_succ, i64_w, i32_w]
                  rfl
                refine one_ (i := 1) (N := some 35) #[true, true, true, false, false, false, false, false, false] rfl rfl (one_of HT_.out (by kernel_rfl)) (by decide) (fun K hK => ?_)
                refine goes_ Tryz.func15 (by kernel_rfl) rfl #[.agg #[.slice Ao15 t255.length co15, .bool t258]] (by rfl) rfl rfl (by (try simp only [List.map_toArray, List.map_cons, List.map_nil]); first | done | rfl | (simp only [List.length_drop, List.length_take]; rfl)) ?_
                with_reducible refine (spec_Text.calls kj5 _ _ t255 t258 t265 _ ?side1 ?side2 A37.out).mono ?_
                (case side1 => repeat (first | exact (Kd.S_reads' HO_260000.out).2.2 | (with_reducible refine Kd.C_alloc ?_ _) | (with_reducible refine Kd.C_drewN ?_ _) | (with_reducible refine Kd.C_drew ?_)))
                (case side2 => exact (Kd.S_reads' HO_260000.out).2.1)
                rintro e w71 ⟨rfl, hb⟩
                refine ⟨_, rfl, ?_⟩
                have n0_ := Aside0.mk (Kd.S_below (by (with_reducible repeat (first | apply Kd.S_alloc | apply Kd.S_drewN | apply Kd.S_drew)); exact HO_260000.out) hb)
                have n1_ := Aside0.mk (blk_below (g := gb252) (o := .cells #[.slice A0_0 l0_0.length c0_0, .bool a0_1] 24 (0, 0)) (by (with_reducible repeat (first | refine blk_drewN ?_ _ | refine blk_drew ?_ | refine blk_alloc ?_ _)); exact BK252.out) hb)
                have n2_ := Aside0.mk (blk_below (g := gb253) (o := .cells #[.int .i64 a1_0, .int .i64 a1_1, .int .i64 a1_2, .int .i64 a1_3, .int .i64 a1_4, .int .i64 a1_5] 26 (0, 0)) (by (with_reducible repeat (first | refine blk_drewN ?_ _ | refine blk_drew ?_ | refine blk_alloc ?_ _)); exact BK253.out) hb)
                have n3_ := Aside0.mk (blk_below (g := gb259) (o := .cells #[.slice Ao15 t255.length co15, .bool t258] 30 (0, 0)) (by (with_reducible repeat (first | refine blk_drewN ?_ _ | refine blk_drew ?_ | refine blk_alloc ?_ _)); exact BK259.out) hb)
                have n4_ := Aside0.mk (blk_below (g := gb264) (o := .cells #[.int .i64 a1_0, .int .i64 a1_1, .int .i64 a1_2, .int .i64 a1_3, .int .i64 a1_4, .int .i64 0] 26 (0, 0)) (by (with_reducible repeat (first | refine blk_drewN ?_ _ | refine blk_drew ?_ | refine blk_alloc ?_ _)); exact BK264.out) hb)
                have n5_ := Aside0.mk (below_step (by repeat (first | (with_reducible first | exact HB.out | apply below_alloc | apply pw_below_drewN | apply below_drew1 | refine below_set ?_ GE252.out | refine below_set ?_ GE253.out | refine below_set ?_ GE259.out | refine below_set ?_ GE264.out) | exact HB.out)) hb)
                clear HO_260000
                clear BK252
                clear BK253
                clear BK259
                clear BK264
                clear HB
                have HO_260000 := n0_
                have BK252 := n1_
                have BK253 := n2_
                have BK259 := n3_
                have BK264 := n4_
                have HB := n5_
                clear n0_ n1_ n2_ n3_ n4_ n5_
                (try clear hb)
                (try clear hb2)
                (try clear hk)
                (try clear hi)
                refine hK.out _ _ ⟨(blk_cell BK259.out 0).trans rfl, (blk_cell BK259.out 1).trans rfl, (blk_cell BK264.out 0).trans rfl, (blk_cell BK264.out 1).trans rfl, (blk_cell BK264.out 2).trans rfl, (blk_cell BK264.out 3).trans rfl, (blk_cell BK264.out 4).trans rfl, (blk_cell BK264.out 5).trans rfl⟩ (fun hHeld => ?_)
                clear hK K
                refine norm_ (a' := ?_) ?_ ?_
                rotate_left
                · show Act.put _ (some 35) _ = _
                  simp only [Act.put, List.setIfInBounds_toArray, List.set_cons_zero, List.set_cons_succ, i64_w, i32_w]
                  rfl
                refine one_ (i := 3) (N := some 37) #[true, true, true, true, false, false, false, false, false] rfl rfl (one_of HT_.out (by kernel_rfl)) (by decide) (fun K hK => ?_)
                refine goes_ Tryz.func14 (by kernel_rfl) rfl #[.string t265, .agg #[.int .i64 a1_0, .int .i64 a1_1, .int .i64 a1_2, .int .i64 a1_3, .int .i64 a1_4, .int .i64 0]] (by rfl) rfl rfl (by (try simp only [List.map_toArray, List.map_cons, List.map_nil]); first | done | rfl | (simp only [List.length_drop, List.length_take]; rfl)) ?_
                with_reducible refine (impl_Due.calls t265 a1_0 a1_1 a1_2 a1_3 a1_4 0 false true _ A38.out).mono ?_
                rintro e w72 ⟨rfl, hb⟩
                refine ⟨_, rfl, ?_⟩
                have n0_ := Aside0.mk (Kd.S_below (by (with_reducible repeat (first | apply Kd.S_alloc | apply Kd.S_drewN | apply Kd.S_drew)); exact HO_260000.out) hb)
                have n1_ := Aside0.mk (blk_below (g := gb252) (o := .cells #[.slice A0_0 l0_0.length c0_0, .bool a0_1] 24 (0, 0)) (by (with_reducible repeat (first | refine blk_drewN ?_ _ | refine blk_drew ?_ | refine blk_alloc ?_ _)); exact BK252.out) hb)
                have n2_ := Aside0.mk (blk_below (g := gb253) (o := .cells #[.int .i64 a1_0, .int .i64 a1_1, .int .i64 a1_2, .int .i64 a1_3, .int .i64 a1_4, .int .i64 a1_5] 26 (0, 0)) (by (with_reducible repeat (first | refine blk_drewN ?_ _ | refine blk_drew ?_ | refine blk_alloc ?_ _)); exact BK253.out) hb)
                have n3_ := Aside0.mk (blk_below (g := gb259) (o := .cells #[.slice Ao15 t255.length co15, .bool t258] 30 (0, 0)) (by (with_reducible repeat (first | refine blk_drewN ?_ _ | refine blk_drew ?_ | refine blk_alloc ?_ _)); exact BK259.out) hb)
                have n4_ := Aside0.mk (blk_below (g := gb264) (o := .cells #[.int .i64 a1_0, .int .i64 a1_1, .int .i64 a1_2, .int .i64 a1_3, .int .i64 a1_4, .int .i64 0] 26 (0, 0)) (by (with_reducible repeat (first | refine blk_drewN ?_ _ | refine blk_drew ?_ | refine blk_alloc ?_ _)); exact BK264.out) hb)
                have n5_ := Aside0.mk (below_step (by repeat (first | (with_reducible first | exact HB.out | apply below_alloc | apply pw_below_drewN | apply below_drew1 | refine below_set ?_ GE252.out | refine below_set ?_ GE253.out | refine below_set ?_ GE259.out | refine below_set ?_ GE264.out) | exact HB.out)) hb)
                clear HO_260000
                clear BK252
                clear BK253
                clear BK259
                clear BK264
                clear HB
                have HO_260000 := n0_
                have BK252 := n1_
                have BK253 := n2_
                have BK259 := n3_
                have BK264 := n4_
                have HB := n5_
                clear n0_ n1_ n2_ n3_ n4_ n5_
                (try clear hb)
                (try clear hb2)
                (try clear hk)
                (try clear hi)
                refine hK.out _ _ ⟨(blk_cell BK259.out 0).trans rfl, (blk_cell BK259.out 1).trans rfl, (blk_cell BK264.out 0).trans rfl, (blk_cell BK264.out 1).trans rfl, (blk_cell BK264.out 2).trans rfl, (blk_cell BK264.out 3).trans rfl, (blk_cell BK264.out 4).trans rfl, (blk_cell BK264.out 5).trans rfl⟩ (fun hHeld => ?_)
                clear hK K
                refine norm_ (a' := ?_) ?_ ?_
                rotate_left
                · show Act.put _ (some 37) _ = _
                  simp only [Act.put, List.setIfInBounds_toArray, List.set_cons_zero, List.set_cons_succ, i64_w, i32_w]
                  rfl
                refine pure_ (i := 4) (N := some 33) (v := ?_) (a' := ?_) #[true, true, true, true, true, false, false, false, false] rfl rfl (any_of HT_.out (by kernel_rfl)) (fun _ _ _ h => h) (Or.inl ⟨by rfl, ?_⟩) ?_ ?_
                rotate_left
                · intro w'
                  go_simp
                  with_reducible rfl
                rotate_left
                · simp only [Act.put, List.setIfInBounds_toArray, List.set_cons_zero, List.set_cons_succ, i64_w, i32_w]
                  rfl
                refine pure_ (i := 5) (N := some 38) (v := ?_) (a' := ?_) #[true, true, true, true, true, true, false, false, false] rfl rfl (any_of HT_.out (by kernel_rfl)) (fun _ _ _ h => h) (Or.inl ⟨by rfl, ?_⟩) ?_ ?_
                rotate_left
                · intro w'
                  go_simp
                  with_reducible rfl
                rotate_left
                · simp only [Act.put, List.setIfInBounds_toArray, List.set_cons_zero, List.set_cons_succ, i64_w, i32_w]
                  rfl
                refine pure_ (i := 6) (N := some 39) (v := ?_) (a' := ?_) #[true, true, true, true, true, true, true, false, false] rfl rfl (any_of HT_.out (by kernel_rfl)) (fun _ _ _ h => h) (Or.inl ⟨by rfl, ?_⟩) ?_ ?_
                rotate_left
                · intro w'
                  go_simp
                  with_reducible rfl
                rotate_left
                · simp only [Act.put, List.setIfInBounds_toArray, List.set_cons_zero, List.set_cons_succ, i64_w, i32_w]
                  rfl
                refine pure_ (i := 7) (N := some 9) (v := ?_) (a' := ?_) #[true, true, true, true, true, true, true, true, false] rfl rfl (any_of HT_.out (by kernel_rfl)) (fun _ _ _ h => h) (Or.inl ⟨by rfl, ?_⟩) ?_ ?_
                rotate_left
                · intro w'
                  go_simp
                  with_reducible rfl
                rotate_left
                · simp only [Act.put, List.setIfInBounds_toArray, List.set_cons_zero, List.set_cons_succ, i64_w, i32_w]
                  rfl
                refine pure_ (i := 8) (N := some 10) (v := ?_) (a' := ?_) #[true, true, true, true, true, true, true, true, true] rfl rfl (any_of HT_.out (by kernel_rfl)) (fun _ _ _ h => h) (Or.inl ⟨by rfl, ?_⟩) ?_ ?_
                rotate_left
                · intro w'
                  go_simp
                  with_reducible rfl
                rotate_left
                · simp only [Act.put, List.setIfInBounds_toArray, List.set_cons_zero, List.set_cons_succ, i64_w, i32_w]
                  rfl
                refine done_ (done_of HT_.out (by kernel_rfl)) ?_
                try go_wp2
                go_ret
                exact ⟨by first | rfl | (simp [errW_none, errW_some] <;> rfl) | (simp [*, errW_none, errW_some] <;> rfl), by repeat (first | (with_reducible first | exact HB.out | apply below_alloc | apply pw_below_drewN | apply below_drew1 | refine below_set ?_ GE252.out | refine below_set ?_ GE253.out | refine below_set ?_ GE259.out | refine below_set ?_ GE264.out) | exact HB.out)⟩
            · replace c40 := Bool.eq_false_iff.mpr c40
              subst c40
              have H1 : (some false) = some r := by rw [if_neg (show ¬ (false = true) by decide)] at H; exact H
              clear H
              have H := H1
              clear H1
              obtain rfl := Option.some.inj H
              try go_wp2
              have n0_ := Aside0.mk (Kd.S_drew HO_260000.out)
              have n1_ := Aside0.mk (blk_drew BK252.out)
              have n2_ := Aside0.mk (blk_drew BK253.out)
              have n3_ := Aside0.mk (blk_drew BK259.out)
              have n4_ := Aside0.mk (below_drew1 HB.out)
              clear HO_260000
              clear BK252
              clear BK253
              clear BK259
              clear HB
              have HO_260000 := n0_
              have BK252 := n1_
              have BK253 := n2_
              have BK259 := n3_
              have HB := n4_
              clear n0_ n1_ n2_ n3_ n4_
              refine start_ (n := 9) (S := fun w' => w'.cell? ⟨gb259, 0, none⟩ = some (.slice Ao15 t255.length co15) ∧ w'.cell? ⟨gb259, 1, none⟩ = some (.bool t258) ∧ w'.cell? ⟨gb253, 0, none⟩ = some (.int .i64 a1_0) ∧ w'.cell? ⟨gb253, 1, none⟩ = some (.int .i64 a1_1) ∧ w'.cell? ⟨gb253, 2, none⟩ = some (.int .i64 a1_2) ∧ w'.cell? ⟨gb253, 3, none⟩ = some (.int .i64 a1_3) ∧ w'.cell? ⟨gb253, 4, none⟩ = some (.int .i64 a1_4) ∧ w'.cell? ⟨gb253, 5, none⟩ = some (.int .i64 a1_5)) (ds := []) #[false, false, false, false, false, false, false, false, false] (by kernel_rfl) rfl rfl ⟨(blk_cell BK259.out 0).trans rfl, (blk_cell BK259.out 1).trans rfl, (blk_cell BK253.out 0).trans rfl, (blk_cell BK253.out 1).trans rfl, (blk_cell BK253.out 2).trans rfl, (blk_cell BK253.out 3).trans rfl, (blk_cell BK253.out 4).trans rfl, (blk_cell BK253.out 5).trans rfl⟩ (fun hHeld => ?_); refine with_tabW laws_FnSeconds.tab6 laws_FnSeconds.bits6 (fun HT_ HW_ => ?_)
              generalize wc.drew = w73 at HO_260000 BK252 BK253 BK259 HB hHeld ⊢
              refine take_ (i := 0) (N := some 25) (v := ?_) (a' := ?_) #[true, false, false, false, false, false, false, false, false] rfl rfl (take_ofW HT_.out HW_.out (by kernel_rfl)) (fun _ _ _ h => h) (Or.inl ⟨by rfl, ?_⟩) hHeld ?_ ?_
              rotate_left
              · rintro w' ⟨s0, s1, s2, s3, s4, s5, s6, s7⟩
                go_simp
                with_reducible rfl
              rotate_left
              · simp only [Act.put, List.setIfInBounds_toArray, List.set_cons_zero, List.set_cons_succ, i64_w, i32_w]
                rfl
              refine take_ (i := 2) (N := some 27) (v := ?_) (a' := ?_) #[true, false, true, false, false, false, false, false, false] rfl rfl (take_ofW HT_.out HW_.out (by kernel_rfl)) (fun _ _ _ h => h) (Or.inl ⟨by rfl, ?_⟩) hHeld ?_ ?_
              rotate_left
              · rintro w' ⟨s0, s1, s2, s3, s4, s5, s6, s7⟩
                go_simp
                with_reducible rfl
              rotate_left
              · simp only [Act.put, List.setIfInBounds_toArray, List.set_cons_zero, List.set_cons_succ, i64_w, i32_w]
                rfl
              refine one_ (i := 1) (N := some 26) #[true, true, true, false, false, false, false, false, false] rfl rfl (one_of HT_.out (by kernel_rfl)) (by decide) (fun K hK => ?_)
              refine goes_ Tryz.func15 (by kernel_rfl) rfl #[.agg #[.slice Ao15 t255.length co15, .bool t258]] (by rfl) rfl rfl (by (try simp only [List.map_toArray, List.map_cons, List.map_nil]); first | done | rfl | (simp only [List.length_drop, List.length_take]; rfl)) ?_
              with_reducible refine (spec_Text.calls kj5 _ _ t255 t258 t261 _ ?side1 ?side2 A35.out).mono ?_
              (case side1 => repeat (first | exact (Kd.S_reads' HO_260000.out).2.2 | (with_reducible refine Kd.C_alloc ?_ _) | (with_reducible refine Kd.C_drewN ?_ _) | (with_reducible refine Kd.C_drew ?_)))
              (case side2 => exact (Kd.S_reads' HO_260000.out).2.1)
              rintro e w74 ⟨rfl, hb⟩
              refine ⟨_, rfl, ?_⟩
              have n0_ := Aside0.mk (Kd.S_below (by (with_reducible repeat (first | apply Kd.S_alloc | apply Kd.S_drewN | apply Kd.S_drew)); exact HO_260000.out) hb)
              have n1_ := Aside0.mk (blk_below (g := gb252) (o := .cells #[.slice A0_0 l0_0.length c0_0, .bool a0_1] 24 (0, 0)) (by (with_reducible repeat (first | refine blk_drewN ?_ _ | refine blk_drew ?_ | refine blk_alloc ?_ _)); exact BK252.out) hb)
              have n2_ := Aside0.mk (blk_below (g := gb253) (o := .cells #[.int .i64 a1_0, .int .i64 a1_1, .int .i64 a1_2, .int .i64 a1_3, .int .i64 a1_4, .int .i64 a1_5] 26 (0, 0)) (by (with_reducible repeat (first | refine blk_drewN ?_ _ | refine blk_drew ?_ | refine blk_alloc ?_ _)); exact BK253.out) hb)
              have n3_ := Aside0.mk (blk_below (g := gb259) (o := .cells #[.slice Ao15 t255.length co15, .bool t258] 30 (0, 0)) (by (with_reducible repeat (first | refine blk_drewN ?_ _ | refine blk_drew ?_ | refine blk_alloc ?_ _)); exact BK259.out) hb)
              have n4_ := Aside0.mk (below_step (by repeat (first | (with_reducible first | exact HB.out | apply below_alloc | apply pw_below_drewN | apply below_drew1 | refine below_set ?_ GE252.out | refine below_set ?_ GE253.out | refine below_set ?_ GE259.out) | exact HB.out)) hb)
              clear HO_260000
              clear BK252
              clear BK253
              clear BK259
              clear HB
              have HO_260000 := n0_
              have BK252 := n1_
              have BK253 := n2_
              have BK259 := n3_
              have HB := n4_
              clear n0_ n1_ n2_ n3_ n4_
              (try clear hb)
              (try clear hb2)
              (try clear hk)
              (try clear hi)
              refine hK.out _ _ ⟨(blk_cell BK259.out 0).trans rfl, (blk_cell BK259.out 1).trans rfl, (blk_cell BK253.out 0).trans rfl, (blk_cell BK253.out 1).trans rfl, (blk_cell BK253.out 2).trans rfl, (blk_cell BK253.out 3).trans rfl, (blk_cell BK253.out 4).trans rfl, (blk_cell BK253.out 5).trans rfl⟩ (fun hHeld => ?_)
              clear hK K
              refine norm_ (a' := ?_) ?_ ?_
              rotate_left
              · show Act.put _ (some 26) _ = _
                simp only [Act.put, List.setIfInBounds_toArray, List.set_cons_zero, List.set_cons_succ, i64_w, i32_w]
                rfl
              refine one_ (i := 3) (N := some 28) #[true, true, true, true, false, false, false, false, false] rfl rfl (one_of HT_.out (by kernel_rfl)) (by decide) (fun K hK => ?_)
              refine goes_ Tryz.func14 (by kernel_rfl) rfl #[.string t261, .agg #[.int .i64 a1_0, .int .i64 a1_1, .int .i64 a1_2, .int .i64 a1_3, .int .i64 a1_4, .int .i64 a1_5]] (by rfl) rfl rfl (by (try simp only [List.map_toArray, List.map_cons, List.map_nil]); first | done | rfl | (simp only [List.length_drop, List.length_take]; rfl)) ?_
              with_reducible refine (impl_Due.calls t261 a1_0 a1_1 a1_2 a1_3 a1_4 a1_5 t262 true _ A36.out).mono ?_
              rintro e w75 ⟨rfl, hb⟩
              refine ⟨_, rfl, ?_⟩
              have n0_ := Aside0.mk (Kd.S_below (by (with_reducible repeat (first | apply Kd.S_alloc | apply Kd.S_drewN | apply Kd.S_drew)); exact HO_260000.out) hb)
              have n1_ := Aside0.mk (blk_below (g := gb252) (o := .cells #[.slice A0_0 l0_0.length c0_0, .bool a0_1] 24 (0, 0)) (by (with_reducible repeat (first | refine blk_drewN ?_ _ | refine blk_drew ?_ | refine blk_alloc ?_ _)); exact BK252.out) hb)
              have n2_ := Aside0.mk (blk_below (g := gb253) (o := .cells #[.int .i64 a1_0, .int .i64 a1_1, .int .i64 a1_2, .int .i64 a1_3, .int .i64 a1_4, .int .i64 a1_5] 26 (0, 0)) (by (with_reducible repeat (first | refine blk_drewN ?_ _ | refine blk_drew ?_ | refine blk_alloc ?_ _)); exact BK253.out) hb)
              have n3_ := Aside0.mk (blk_below (g := gb259) (o := .cells #[.slice Ao15 t255.length co15, .bool t258] 30 (0, 0)) (by (with_reducible repeat (first | refine blk_drewN ?_ _ | refine blk_drew ?_ | refine blk_alloc ?_ _)); exact BK259.out) hb)
              have n4_ := Aside0.mk (below_step (by repeat (first | (with_reducible first | exact HB.out | apply below_alloc | apply pw_below_drewN | apply below_drew1 | refine below_set ?_ GE252.out | refine below_set ?_ GE253.out | refine below_set ?_ GE259.out) | exact HB.out)) hb)
              clear HO_260000
              clear BK252
              clear BK253
              clear BK259
              clear HB
              have HO_260000 := n0_
              have BK252 := n1_
              have BK253 := n2_
              have BK259 := n3_
              have HB := n4_
              clear n0_ n1_ n2_ n3_ n4_
              (try clear hb)
              (try clear hb2)
              (try clear hk)
              (try clear hi)
              refine hK.out _ _ ⟨(blk_cell BK259.out 0).trans rfl, (blk_cell BK259.out 1).trans rfl, (blk_cell BK253.out 0).trans rfl, (blk_cell BK253.out 1).trans rfl, (blk_cell BK253.out 2).trans rfl, (blk_cell BK253.out 3).trans rfl, (blk_cell BK253.out 4).trans rfl, (blk_cell BK253.out 5).trans rfl⟩ (fun hHeld => ?_)
              clear hK K
              refine norm_ (a' := ?_) ?_ ?_
              rotate_left
              · show Act.put _ (some 28) _ = _
                simp only [Act.put, List.setIfInBounds_toArray, List.set_cons_zero, List.set_cons_succ, i64_w, i32_w]
                rfl
              refine pure_ (i := 4) (N := some 24) (v := ?_) (a' := ?_) #[true, true, true, true, true, false, false, false, false] rfl rfl (any_of HT_.out (by kernel_rfl)) (fun _ _ _ h => h) (Or.inl ⟨by rfl, ?_⟩) ?_ ?_
              rotate_left
              · intro w'
                go_simp
                with_reducible rfl
              rotate_left
              · simp only [Act.put, List.setIfInBounds_toArray, List.set_cons_zero, List.set_cons_succ, i64_w, i32_w]
                rfl
              refine pure_ (i := 5) (N := some 29) (v := ?_) (a' := ?_) #[true, true, true, true, true, true, false, false, false] rfl rfl (any_of HT_.out (by kernel_rfl)) (fun _ _ _ h => h) (Or.inl ⟨by rfl, ?_⟩) ?_ ?_
              rotate_left
              · intro w'
                go_simp
                with_reducible rfl
              rotate_left
              · simp only [Act.put, List.setIfInBounds_toArray, List.set_cons_zero, List.set_cons_succ, i64_w, i32_w]
                rfl
              refine pure_ (i := 6) (N := some 30) (v := ?_) (a' := ?_) #[true, true, true, true, true, true, true, false, false] rfl rfl (any_of HT_.out (by kernel_rfl)) (fun _ _ _ h => h) (Or.inl ⟨by rfl, ?_⟩) ?_ ?_
              rotate_left
              · intro w'
                go_simp
                with_reducible rfl
              rotate_left
              · simp only [Act.put, List.setIfInBounds_toArray, List.set_cons_zero, List.set_cons_succ, i64_w, i32_w]
                rfl
              refine pure_ (i := 7) (N := some 6) (v := ?_) (a' := ?_) #[true, true, true, true, true, true, true, true, false] rfl rfl (any_of HT_.out (by kernel_rfl)) (fun _ _ _ h => h) (Or.inl ⟨by rfl, ?_⟩) ?_ ?_
              rotate_left
              · intro w'
                go_simp
                with_reducible rfl
              rotate_left
              · simp only [Act.put, List.setIfInBounds_toArray, List.set_cons_zero, List.set_cons_succ, i64_w, i32_w]
                rfl
              refine pure_ (i := 8) (N := some 7) (v := ?_) (a' := ?_) #[true, true, true, true, true, true, true, true, true] rfl rfl (any_of HT_.out (by kernel_rfl)) (fun _ _ _ h => h) (Or.inl ⟨by rfl, ?_⟩) ?_ ?_
              rotate_left
              · intro w'
                go_simp
                with_reducible rfl
              rotate_left
              · simp only [Act.put, List.setIfInBounds_toArray, List.set_cons_zero, List.set_cons_succ, i64_w, i32_w]
                rfl
              refine done_ (done_of HT_.out (by kernel_rfl)) ?_
              have hnb76 := NB253_252.out
              have hnc76 := NB252_253.out
              have hnb77 := NB253_259.out
              have hnc77 := NB259_253.out
              have hcz78_0 : w75.cell? ⟨gb253, 0, none⟩ = some (.int .i64 a1_0) := (blk_cell BK253.out 0).trans rfl
              have hcz78_1 : w75.cell? ⟨gb253, 1, none⟩ = some (.int .i64 a1_1) := (blk_cell BK253.out 1).trans rfl
              have hcz78_2 : w75.cell? ⟨gb253, 2, none⟩ = some (.int .i64 a1_2) := (blk_cell BK253.out 2).trans rfl
              have hcz78_3 : w75.cell? ⟨gb253, 3, none⟩ = some (.int .i64 a1_3) := (blk_cell BK253.out 3).trans rfl
              have hcz78_4 : w75.cell? ⟨gb253, 4, none⟩ = some (.int .i64 a1_4) := (blk_cell BK253.out 4).trans rfl
              have hcz78_5 : w75.cell? ⟨gb253, 5, none⟩ = some (.int .i64 a1_5) := (blk_cell BK253.out 5).trans rfl
              have hfz78_0 := blk_frozen BK253.out 0
              have hfz78_1 := blk_frozen BK253.out 1
              have hfz78_2 := blk_frozen BK253.out 2
              have hfz78_3 := blk_frozen BK253.out 3
              have hfz78_4 := blk_frozen BK253.out 4
              have hfz78_5 := blk_frozen BK253.out 5
              try go_wp2_with (first | ((with_reducible refine gate_dst (N := 8) rfl ?_); refine box_event ?hg (N := 8) ?hd (cs := #[.int .i64 0, .int .i64 0, .int .i64 0, .int .i64 0, .int .i64 0, .int .i64 0]) (t := 26) ?hr ?_; (case hd => rfl); (case hg => rfl); (case hr => first | (go_simp; done) | (go_simp; rfl)); intro gb264 hg w79 hbox hb; have n0_ := Aside0.mk (Kd.S_below (by (with_reducible repeat (first | apply Kd.S_alloc | apply Kd.S_drewN | apply Kd.S_drew)); exact HO_260000.out) hb); have n1_ := Aside0.mk (blk_below (g := gb252) (o := .cells #[.slice A0_0 l0_0.length c0_0, .bool a0_1] 24 (0, 0)) (by (with_reducible repeat (first | refine blk_drewN ?_ _ | refine blk_drew ?_ | refine blk_alloc ?_ _)); exact BK252.out) hb); have n2_ := Aside0.mk (blk_below (g := gb253) (o := .cells #[.int .i64 a1_0, .int .i64 a1_1, .int .i64 a1_2, .int .i64 a1_3, .int .i64 a1_4, .int .i64 a1_5] 26 (0, 0)) (by (with_reducible repeat (first | refine blk_drewN ?_ _ | refine blk_drew ?_ | refine blk_alloc ?_ _)); exact BK253.out) hb); have n3_ := Aside0.mk (blk_below (g := gb259) (o := .cells #[.slice Ao15 t255.length co15, .bool t258] 30 (0, 0)) (by (with_reducible repeat (first | refine blk_drewN ?_ _ | refine blk_drew ?_ | refine blk_alloc ?_ _)); exact BK259.out) hb); have n4_ := Aside0.mk (below_step (by repeat (first | (with_reducible first | exact HB.out | apply below_alloc | apply pw_below_drewN | apply below_drew1 | refine below_set ?_ GE252.out | refine below_set ?_ GE253.out | refine below_set ?_ GE259.out) | exact HB.out)) hb); have n5_ := Aside0.mk (hbox); have n6_ := Aside0.mk ((by rw [hg]; exact (below_size (by repeat (first | (with_reducible first | exact HB.out | apply below_alloc | apply pw_below_drewN | apply below_drew1 | refine below_set ?_ GE252.out | refine below_set ?_ GE253.out | refine below_set ?_ GE259.out) | exact HB.out))) : w.heap.size ≤ gb264)); have n7_ := Aside0.mk ((by rw [hg]; exact (below_size (by repeat (first | (with_reducible first | exact HB.out | apply below_alloc | apply pw_below_drewN | apply below_drew1 | refine below_set ?_ GE252.out | refine below_set ?_ GE253.out | refine below_set ?_ GE259.out) | exact HB.out))) : w.heap.size ≤ gb264)); have n8_ := Aside0.mk ((by rw [hg]; exact Nat.ne_of_lt (blk_lt (g := gb252) (o := .cells #[.slice A0_0 l0_0.length c0_0, .bool a0_1] 24 (0, 0)) (by (with_reducible repeat (first | refine blk_drewN ?_ _ | refine blk_drew ?_ | refine blk_alloc ?_ _)); exact BK252.out)) : gb252 ≠ gb264)); have n9_ := Aside0.mk ((by rw [hg]; exact Nat.ne_of_gt (blk_lt (g := gb252) (o := .cells #[.slice A0_0 l0_0.length c0_0, .bool a0_1] 24 (0, 0)) (by (with_reducible repeat (first | refine blk_drewN ?_ _ | refine blk_drew ?_ | refine blk_alloc ?_ _)); exact BK252.out)) : gb264 ≠ gb252)); have n10_ := Aside0.mk ((by rw [hg]; exact Nat.ne_of_lt (blk_lt (g := gb253) (o := .cells #[.int .i64 a1_0, .int .i64 a1_1, .int .i64 a1_2, .int .i64 a1_3, .int .i64 a1_4, .int .i64 a1_5] 26 (0, 0)) (by (with_reducible repeat (first | refine blk_drewN ?_ _ | refine blk_drew ?_ | refine blk_alloc ?_ _)); exact BK253.out)) : gb253 ≠ gb264)); have n11_ := Aside0.mk ((by rw [hg]; exact Nat.ne_of_gt (blk_lt (g := gb253) (o := .cells #[.int .i64 a1_0, .int .i64 a1_1, .int .i64 a1_2, .int .i64 a1_3, .int .i64 a1_4, .int .i64 a1_5] 26 (0, 0)) (by (with_reducible repeat (first | refine blk_drewN ?_ _ | refine blk_drew ?_ | refine blk_alloc ?_ _)); exact BK253.out)) : gb264 ≠ gb253)); have n12_ := Aside0.mk ((by rw [hg]; exact Nat.ne_of_lt (blk_lt (g := gb259) (o := .cells #[.slice Ao15 t255.length co15, .bool t258] 30 (0, 0)) (by (with_reducible repeat (first | refine blk_drewN ?_ _ | refine blk_drew ?_ | refine blk_alloc ?_ _)); exact BK259.out)) : gb259 ≠ gb264)); have n13_ := Aside0.mk ((by rw [hg]; exact Nat.ne_of_gt (blk_lt (g := gb259) (o := .cells #[.slice Ao15 t255.length co15, .bool t258] 30 (0, 0)) (by (with_reducible repeat (first | refine blk_drewN ?_ _ | refine blk_drew ?_ | refine blk_alloc ?_ _)); exact BK259.out)) : gb264 ≠ gb259)); clear HO_260000; clear BK252; clear BK253; clear BK259; clear HB; have HO_260000 := n0_; have BK252 := n1_; have BK253 := n2_; have BK259 := n3_; have HB := n4_; have BK264 := n5_; have GW264 := n6_; have GE264 := n7_; have NB252_264 := n8_; have NB264_252 := n9_; have NB253_264 := n10_; have NB264_253 := n11_; have NB259_264 := n12_; have NB264_259 := n13_; clear n0_ n1_ n2_ n3_ n4_ n5_ n6_ n7_ n8_ n9_ n10_ n11_ n12_ n13_; clear hb hbox hg; have hnb80 := NB264_252.out; have hnc80 := NB252_264.out; have hnb81 := NB264_253.out; have hnc81 := NB253_264.out; have hnb82 := NB264_259.out; have hnc82 := NB259_264.out; have hcz83_0 : w79.cell? ⟨gb264, 0, none⟩ = some (.int .i64 0) := (blk_cell BK264.out 0).trans rfl; have hcz83_1 : w79.cell? ⟨gb264, 1, none⟩ = some (.int .i64 0) := (blk_cell BK264.out 1).trans rfl; have hcz83_2 : w79.cell? ⟨gb264, 2, none⟩ = some (.int .i64 0) := (blk_cell BK264.out 2).trans rfl; have hcz83_3 : w79.cell? ⟨gb264, 3, none⟩ = some (.int .i64 0) := (blk_cell BK264.out 3).trans rfl; have hcz83_4 : w79.cell? ⟨gb264, 4, none⟩ = some (.int .i64 0) := (blk_cell BK264.out 4).trans rfl; have hcz83_5 : w79.cell? ⟨gb264, 5, none⟩ = some (.int .i64 0) := (blk_cell BK264.out 5).trans rfl; have hfz83_0 := blk_frozen BK264.out 0; have hfz83_1 := blk_frozen BK264.out 1; have hfz83_2 := blk_frozen BK264.out 2; have hfz83_3 := blk_frozen BK264.out 3; have hfz83_4 := blk_frozen BK264.out 4; have hfz83_5 := blk_frozen BK264.out 5))
              have n0_ : Aside0 (Kd.S (Kd.slice 38 k38) 36 (((((((w79.setCell ⟨gb264, 0, none⟩ (.int .i64 a1_0)).setCell ⟨gb264, 1, none⟩ (.int .i64 a1_1)).setCell ⟨gb264, 2, none⟩ (.int .i64 a1_2)).setCell ⟨gb264, 3, none⟩ (.int .i64 a1_3)).setCell ⟨gb264, 4, none⟩ (.int .i64 a1_4)).setCell ⟨gb264, 5, none⟩ (.int .i64 a1_5)).setCell ⟨gb264, 5, none⟩ (.int .i64 0)) w.heap.size (fun _ => True) (.slice Ao15 t255.length co15) t255) := ⟨by (with_reducible repeat (first | apply Kd.S_alloc | apply Kd.S_drewN | apply Kd.S_drew)); exact Kd.S_mono (Kd.S_far (p := ⟨gb264, 5, none⟩) (Kd.S_far (p := ⟨gb264, 5, none⟩) (Kd.S_far (p := ⟨gb264, 4, none⟩) (Kd.S_far (p := ⟨gb264, 3, none⟩) (Kd.S_far (p := ⟨gb264, 2, none⟩) (Kd.S_far (p := ⟨gb264, 1, none⟩) (Kd.S_far (p := ⟨gb264, 0, none⟩) (Kd.S_types HO_260000.out BK264.out (by decide)) (fun _ hk => hk.2) (.int .i64 a1_0)) (fun _ hk => hk.2) (.int .i64 a1_1)) (fun _ hk => hk.2) (.int .i64 a1_2)) (fun _ hk => hk.2) (.int .i64 a1_3)) (fun _ hk => hk.2) (.int .i64 a1_4)) (fun _ hk => hk.2) (.int .i64 a1_5)) (fun _ hk => hk.2) (.int .i64 0)) (fun _ hk => trivial)⟩
              have n1_ : Aside0 ((((((((w79.setCell ⟨gb264, 0, none⟩ (.int .i64 a1_0)).setCell ⟨gb264, 1, none⟩ (.int .i64 a1_1)).setCell ⟨gb264, 2, none⟩ (.int .i64 a1_2)).setCell ⟨gb264, 3, none⟩ (.int .i64 a1_3)).setCell ⟨gb264, 4, none⟩ (.int .i64 a1_4)).setCell ⟨gb264, 5, none⟩ (.int .i64 a1_5)).setCell ⟨gb264, 5, none⟩ (.int .i64 0)).heap[gb252]? = some (.cells #[.slice A0_0 l0_0.length c0_0, .bool a0_1] 24 (0, 0))) := ⟨by (with_reducible repeat (first | refine blk_drewN ?_ _ | refine blk_drew ?_ | refine blk_alloc ?_ _)); refine blk_far ?_ NB252_264.out _; (with_reducible repeat (first | refine blk_drewN ?_ _ | refine blk_drew ?_ | refine blk_alloc ?_ _)); refine blk_far ?_ NB252_264.out _; (with_reducible repeat (first | refine blk_drewN ?_ _ | refine blk_drew ?_ | refine blk_alloc ?_ _)); refine blk_far ?_ NB252_264.out _; (with_reducible repeat (first | refine blk_drewN ?_ _ | refine blk_drew ?_ | refine blk_alloc ?_ _)); refine blk_far ?_ NB252_264.out _; (with_reducible repeat (first | refine blk_drewN ?_ _ | refine blk_drew ?_ | refine blk_alloc ?_ _)); refine blk_far ?_ NB252_264.out _; (with_reducible repeat (first | refine blk_drewN ?_ _ | refine blk_drew ?_ | refine blk_alloc ?_ _)); refine blk_far ?_ NB252_264.out _; (with_reducible repeat (first | refine blk_drewN ?_ _ | refine blk_drew ?_ | refine blk_alloc ?_ _)); refine blk_far ?_ NB252_264.out _; (with_reducible repeat (first | refine blk_drewN ?_ _ | refine blk_drew ?_ | refine blk_alloc ?_ _)); exact BK252.out⟩
              have n2_ : Aside0 ((((((((w79.setCell ⟨gb264, 0, none⟩ (.int .i64 a1_0)).setCell ⟨gb264, 1, none⟩ (.int .i64 a1_1)).setCell ⟨gb264, 2, none⟩ (.int .i64 a1_2)).setCell ⟨gb264, 3, none⟩ (.int .i64 a1_3)).setCell ⟨gb264, 4, none⟩ (.int .i64 a1_4)).setCell ⟨gb264, 5, none⟩ (.int .i64 a1_5)).setCell ⟨gb264, 5, none⟩ (.int .i64 0)).heap[gb253]? = some (.cells #[.int .i64 a1_0, .int .i64 a1_1, .int .i64 a1_2, .int .i64 a1_3, .int .i64 a1_4, .int .i64 a1_5] 26 (0, 0))) := ⟨by (with_reducible repeat (first | refine blk_drewN ?_ _ | refine blk_drew ?_ | refine blk_alloc ?_ _)); refine blk_far ?_ NB253_264.out _; (with_reducible repeat (first | refine blk_drewN ?_ _ | refine blk_drew ?_ | refine blk_alloc ?_ _)); refine blk_far ?_ NB253_264.out _; (with_reducible repeat (first | refine blk_drewN ?_ _ | refine blk_drew ?_ | refine blk_alloc ?_ _)); refine blk_far ?_ NB253_264.out _; (with_reducible repeat (first | refine blk_drewN ?_ _ | refine blk_drew ?_ | refine blk_alloc ?_ _)); refine blk_far ?_ NB253_264.out _; (with_reducible repeat (first | refine blk_drewN ?_ _ | refine blk_drew ?_ | refine blk_alloc ?_ _)); refine blk_far ?_ NB253_264.out _; (with_reducible repeat (first | refine blk_drewN ?_ _ | refine blk_drew ?_ | refine blk_alloc ?_ _)); refine blk_far ?_ NB253_264.out _; (with_reducible repeat (first | refine blk_drewN ?_ _ | refine blk_drew ?_ | refine blk_alloc ?_ _)); refine blk_far ?_ NB253_264.out _; (with_reducible repeat (first | refine blk_drewN ?_ _ | refine blk_drew ?_ | refine blk_alloc ?_ _)); exact BK253.out⟩
              have n3_ : Aside0 ((((((((w79.setCell ⟨gb264, 0, none⟩ (.int .i64 a1_0)).setCell ⟨gb264, 1, none⟩ (.int .i64 a1_1)).setCell ⟨gb264, 2, none⟩ (.int .i64 a1_2)).setCell ⟨gb264, 3, none⟩ (.int .i64 a1_3)).setCell ⟨gb264, 4, none⟩ (.int .i64 a1_4)).setCell ⟨gb264, 5, none⟩ (.int .i64 a1_5)).setCell ⟨gb264, 5, none⟩ (.int .i64 0)).heap[gb259]? = some (.cells #[.slice Ao15 t255.length co15, .bool t258] 30 (0, 0))) := ⟨by (with_reducible repeat (first | refine blk_drewN ?_ _ | refine blk_drew ?_ | refine blk_alloc ?_ _)); refine blk_far ?_ NB259_264.out _; (with_reducible repeat (first | refine blk_drewN ?_ _ | refine blk_drew ?_ | refine blk_alloc ?_ _)); refine blk_far ?_ NB259_264.out _; (with_reducible repeat (first | refine blk_drewN ?_ _ | refine blk_drew ?_ | refine blk_alloc ?_ _)); refine blk_far ?_ NB259_264.out _; (with_reducible repeat (first | refine blk_drewN ?_ _ | refine blk_drew ?_ | refine blk_alloc ?_ _)); refine blk_far ?_ NB259_264.out _; (with_reducible repeat (first | refine blk_drewN ?_ _ | refine blk_drew ?_ | refine blk_alloc ?_ _)); refine blk_far ?_ NB259_264.out _; (with_reducible repeat (first | refine blk_drewN ?_ _ | refine blk_drew ?_ | refine blk_alloc ?_ _)); refine blk_far ?_ NB259_264.out _; (with_reducible repeat (first | refine blk_drewN ?_ _ | refine blk_drew ?_ | refine blk_alloc ?_ _)); refine blk_far ?_ NB259_264.out _; (with_reducible repeat (first | refine blk_drewN ?_ _ | refine blk_drew ?_ | refine blk_alloc ?_ _)); exact BK259.out⟩
              have n4_ : Aside0 ((((((((w79.setCell ⟨gb264, 0, none⟩ (.int .i64 a1_0)).setCell ⟨gb264, 1, none⟩ (.int .i64 a1_1)).setCell ⟨gb264, 2, none⟩ (.int .i64 a1_2)).setCell ⟨gb264, 3, none⟩ (.int .i64 a1_3)).setCell ⟨gb264, 4, none⟩ (.int .i64 a1_4)).setCell ⟨gb264, 5, none⟩ (.int .i64 a1_5)).setCell ⟨gb264, 5, none⟩ (.int .i64 0)).heap[gb264]? = some (.cells #[.int .i64 a1_0, .int .i64 a1_1, .int .i64 a1_2, .int .i64 a1_3, .int .i64 a1_4, .int .i64 0] 26 (0, 0))) := ⟨by (with_reducible repeat (first | refine blk_drewN ?_ _ | refine blk_drew ?_ | refine blk_alloc ?_ _)); refine blk_put (cs := #[.int .i64 a1_0, .int .i64 a1_1, .int .i64 a1_2, .int .i64 a1_3, .int .i64 a1_4, .int .i64 a1_5]) ?_ 5 _ rfl; (with_reducible repeat (first | refine blk_drewN ?_ _ | refine blk_drew ?_ | refine blk_alloc ?_ _)); refine blk_put (cs := #[.int .i64 a1_0, .int .i64 a1_1, .int .i64 a1_2, .int .i64 a1_3, .int .i64 a1_4, .int .i64 0]) ?_ 5 _ rfl; (with_reducible repeat (first | refine blk_drewN ?_ _ | refine blk_drew ?_ | refine blk_alloc ?_ _)); refine blk_put (cs := #[.int .i64 a1_0, .int .i64 a1_1, .int .i64 a1_2, .int .i64 a1_3, .int .i64 0, .int .i64 0]) ?_ 4 _ rfl; (with_reducible repeat (first | refine blk_drewN ?_ _ | refine blk_drew ?_ | refine blk_alloc ?_ _)); refine blk_put (cs := #[.int .i64 a1_0, .int .i64 a1_1, .int .i64 a1_2, .int .i64 0, .int .i64 0, .int .i64 0]) ?_ 3 _ rfl; (with_reducible repeat (first | refine blk_drewN ?_ _ | refine blk_drew ?_ | refine blk_alloc ?_ _)); refine blk_put (cs := #[.int .i64 a1_0, .int .i64 a1_1, .int .i64 0, .int .i64 0, .int .i64 0, .int .i64 0]) ?_ 2 _ rfl; (with_reducible repeat (first | refine blk_drewN ?_ _ | refine blk_drew ?_ | refine blk_alloc ?_ _)); refine blk_put (cs := #[.int .i64 a1_0, .int .i64 0, .int .i64 0, .int .i64 0, .int .i64 0, .int .i64 0]) ?_ 1 _ rfl; (with_reducible repeat (first | refine blk_drewN ?_ _ | refine blk_drew ?_ | refine blk_alloc ?_ _)); refine blk_put (cs := #[.int .i64 0, .int .i64 0, .int .i64 0, .int .i64 0, .int .i64 0, .int .i64 0]) ?_ 0 _ rfl; (with_reducible repeat (first | refine blk_drewN ?_ _ | refine blk_drew ?_ | refine blk_alloc ?_ _)); exact BK264.out⟩
              have n5_ : Aside0 (Below w.heap.size w (((((((w79.setCell ⟨gb264, 0, none⟩ (.int .i64 a1_0)).setCell ⟨gb264, 1, none⟩ (.int .i64 a1_1)).setCell ⟨gb264, 2, none⟩ (.int .i64 a1_2)).setCell ⟨gb264, 3, none⟩ (.int .i64 a1_3)).setCell ⟨gb264, 4, none⟩ (.int .i64 a1_4)).setCell ⟨gb264, 5, none⟩ (.int .i64 a1_5)).setCell ⟨gb264, 5, none⟩ (.int .i64 0))) := ⟨by repeat (first | (with_reducible first | exact HB.out | apply below_alloc | apply pw_below_drewN | apply below_drew1 | refine below_set ?_ GE252.out | refine below_set ?_ GE253.out | refine below_set ?_ GE259.out | refine below_set ?_ GE264.out) | exact HB.out)⟩
              (try clear HO_260000)
              (try clear BK252)
              (try clear BK253)
              (try clear BK259)
              (try clear BK264)
              (try clear HB)
              generalize (((((((w79.setCell ⟨gb264, 0, none⟩ (.int .i64 a1_0)).setCell ⟨gb264, 1, none⟩ (.int .i64 a1_1)).setCell ⟨gb264, 2, none⟩ (.int .i64 a1_2)).setCell ⟨gb264, 3, none⟩ (.int .i64 a1_3)).setCell ⟨gb264, 4, none⟩ (.int .i64 a1_4)).setCell ⟨gb264, 5, none⟩ (.int .i64 a1_5)).setCell ⟨gb264, 5, none⟩ (.int .i64 0)) = w84 at n0_ n1_ n2_ n3_ n4_ n5_ ⊢
              have HO_260000 := n0_
              have BK252 := n1_
              have BK253 := n2_
              have BK259 := n3_
              have BK264 := n4_
              have HB := n5_
              clear n0_ n1_ n2_ n3_ n4_ n5_
              have n0_ := Aside0.mk (Kd.S_drew HO_260000.out)
              have n1_ := Aside0.mk (blk_drew BK252.out)
              have n2_ := Aside0.mk (blk_drew BK253.out)
              have n3_ := Aside0.mk (blk_drew BK259.out)
              have n4_ := Aside0.mk (blk_drew BK264.out)
              have n5_ := Aside0.mk (below_drew1 HB.out)
              clear HO_260000
              clear BK252
              clear BK253
              clear BK259
              clear BK264
              clear HB
              have HO_260000 := n0_
              have BK252 := n1_
              have BK253 := n2_
              have BK259 := n3_
              have BK264 := n4_
              have HB := n5_
              clear n0_ n1_ n2_ n3_ n4_ n5_
              refine start_ (n := 9) (S := fun w' => w'.cell? ⟨gb259, 0, none⟩ = some (.slice Ao15 t255.length co15) ∧ w'.cell? ⟨gb259, 1, none⟩ = some (.bool t258) ∧ w'.cell? ⟨gb264, 0, none⟩ = some (.int .i64 a1_0) ∧ w'.cell? ⟨gb264, 1, none⟩ = some (.int .i64 a1_1) ∧ w'.cell? ⟨gb264, 2, none⟩ = some (.int .i64 a1_2) ∧ w'.cell? ⟨gb264, 3, none⟩ = some (.int .i64 a1_3) ∧ w'.cell? ⟨gb264, 4, none⟩ = some (.int .i64 a1_4) ∧ w'.cell? ⟨gb264, 5, none⟩ = some (.int .i64 0)) (ds := []) #[false, false, false, false, false, false, false, false, false] (by kernel_rfl) rfl rfl ⟨(blk_cell BK259.out 0).trans rfl, (blk_cell BK259.out 1).trans rfl, (blk_cell BK264.out 0).trans rfl, (blk_cell BK264.out 1).trans rfl, (blk_cell BK264.out 2).trans rfl, (blk_cell BK264.out 3).trans rfl, (blk_cell BK264.out 4).trans rfl, (blk_cell BK264.out 5).trans rfl⟩ (fun hHeld => ?_); refine with_tabW laws_FnSeconds.tab9 laws_FnSeconds.bits9 (fun HT_ HW_ => ?_)
              generalize w84.drew = w85 at HO_260000 BK252 BK253 BK259 BK264 HB hHeld ⊢
              refine take_ (i := 0) (N := some 34) (v := ?_) (a' := ?_) #[true, false, false, false, false, false, false, false, false] rfl rfl (take_ofW HT_.out HW_.out (by kernel_rfl)) (fun _ _ _ h => h) (Or.inl ⟨by rfl, ?_⟩) hHeld ?_ ?_
              rotate_left
              · rintro w' ⟨s0, s1, s2, s3, s4, s5, s6, s7⟩
                go_simp
                with_reducible rfl
              rotate_left
              · simp only [Act.put, List.setIfInBounds_toArray, List.set_cons_zero, List.set_cons_succ, i64_w, i32_w]
                rfl
              refine take_ (i := 2) (N := some 36) (v := ?_) (a' := ?_) #[true, false, true, false, false, false, false, false, false] rfl rfl (take_ofW HT_.out HW_.out (by kernel_rfl)) (fun _ _ _ h => h) (Or.inl ⟨by rfl, ?_⟩) hHeld ?_ ?_
              rotate_left
              · rintro w' ⟨s0, s1, s2, s3, s4, s5, s6, s7⟩
                go_simp
                with_reducible rfl
              rotate_left
              · simp only [Act.put, List.setIfInBounds_toArray, List.set_cons_zero, List.set_cons_succ, i64_w, i32_w]
                rfl
              refine one_ (i := 1) (N := some 35) #[true, true, true, false, false, false, false, false, false] rfl rfl (one_of HT_.out (by kernel_rfl)) (by decide) (fun K hK => ?_)
              refine goes_ Tryz.func15 (by kernel_rfl) rfl #[.agg #[.slice Ao15 t255.length co15, .bool t258]] (by rfl) rfl rfl (by (try simp only [List.map_toArray, List.map_cons, List.map_nil]); first | done | rfl | (simp only [List.length_drop, List.length_take]; rfl)) ?_
              with_reducible refine (spec_Text.calls kj5 _ _ t255 t258 t265 _ ?side1 ?side2 A37.out).mono ?_
              (case side1 => repeat (first | exact (Kd.S_reads' HO_260000.out).2.2 | (with_reducible refine Kd.C_alloc ?_ _) | (with_reducible refine Kd.C_drewN ?_ _) | (with_reducible refine Kd.C_drew ?_)))
              (case side2 => exact (Kd.S_reads' HO_260000.out).2.1)
              rintro e w86 ⟨rfl, hb⟩
              refine ⟨_, rfl, ?_⟩
              have n0_ := Aside0.mk (Kd.S_below (by (with_reducible repeat (first | apply Kd.S_alloc | apply Kd.S_drewN | apply Kd.S_drew)); exact HO_260000.out) hb)
              have n1_ := Aside0.mk (blk_below (g := gb252) (o := .cells #[.slice A0_0 l0_0.length c0_0, .bool a0_1] 24 (0, 0)) (by (with_reducible repeat (first | refine blk_drewN ?_ _ | refine blk_drew ?_ | refine blk_alloc ?_ _)); exact BK252.out) hb)
              have n2_ := Aside0.mk (blk_below (g := gb253) (o := .cells #[.int .i64 a1_0, .int .i64 a1_1, .int .i64 a1_2, .int .i64 a1_3, .int .i64 a1_4, .int .i64 a1_5] 26 (0, 0)) (by (with_reducible repeat (first | refine blk_drewN ?_ _ | refine blk_drew ?_ | refine blk_alloc ?_ _)); exact BK253.out) hb)
              have n3_ := Aside0.mk (blk_below (g := gb259) (o := .cells #[.slice Ao15 t255.length co15, .bool t258] 30 (0, 0)) (by (with_reducible repeat (first | refine blk_drewN ?_ _ | refine blk_drew ?_ | refine blk_alloc ?_ _)); exact BK259.out) hb)
              have n4_ := Aside0.mk (blk_below (g := gb264) (o := .cells #[.int .i64 a1_0, .int .i64 a1_1, .int .i64 a1_2, .int .i64 a1_3, .int .i64 a1_4, .int .i64 0] 26 (0, 0)) (by (with_reducible repeat (first | refine blk_drewN ?_ _ | refine blk_drew ?_ | refine blk_alloc ?_ _)); exact BK264.out) hb)
              have n5_ := Aside0.mk (below_step (by repeat (first | (with_reducible first | exact HB.out | apply below_alloc | apply pw_below_drewN | apply below_drew1 | refine below_set ?_ GE252.out | refine below_set ?_ GE253.out | refine below_set ?_ GE259.out | refine below_set ?_ GE264.out) | exact HB.out)) hb)
              clear HO_260000
              clear BK252
              clear BK253
              clear BK259
              clear BK264
              clear HB
              have HO_260000 := n0_
              have BK252 := n1_
              have BK253 := n2_
              have BK259 := n3_
              have BK264 := n4_
              have HB := n5_
              clear n0_ n1_ n2_ n3_ n4_ n5_
              (try clear hb)
              (try clear hb2)
              (try clear hk)
              (try clear hi)
              refine hK.out _ _ ⟨(blk_cell BK259.out 0).trans rfl, (blk_cell BK259.out 1).trans rfl, (blk_cell BK264.out 0).trans rfl, (blk_cell BK264.out 1).trans rfl, (blk_cell BK264.out 2).trans rfl, (blk_cell BK264.out 3).trans rfl, (blk_cell BK264.out 4).trans rfl, (blk_cell BK264.out 5).trans rfl⟩ (fun hHeld => ?_)
              clear hK K
              refine norm_ (a' := ?_) ?_ ?_
              rotate_left
              · show Act.put _ (some 35) _ = _
                simp only [Act.put, List.setIfInBounds_toArray, List.set_cons_zero, List.set_cons_succ, i64_w, i32_w]
                rfl
              refine one_ (i := 3) (N := some 37) #[true, true, true, true, false, false, false, false, false] rfl rfl (one_of HT_.out (by kernel_rfl)) (by decide) (fun K hK => ?_)
              refine goes_ Tryz.func14 (by kernel_rfl) rfl #[.string t265, .agg #[.int .i64 a1_0, .int .i64 a1_1, .int .i64 a1_2, .int .i64 a1_3, .int .i64 a1_4, .int .i64 0]] (by rfl) rfl rfl (by (try simp only [List.map_toArray, List.map_cons, List.map_nil]); first | done | rfl | (simp only [List.length_drop, List.length_take]; rfl)) ?_
              with_reducible refine (impl_Due.calls t265 a1_0 a1_1 a1_2 a1_3 a1_4 0 t266 false _ A38.out).mono ?_
              rintro e w87 ⟨rfl, hb⟩
              refine ⟨_, rfl, ?_⟩
              have n0_ := Aside0.mk (Kd.S_below (by (with_reducible repeat (first | apply Kd.S_alloc | apply Kd.S_drewN | apply Kd.S_drew)); exact HO_260000.out) hb)
              have n1_ := Aside0.mk (blk_below (g := gb252) (o := .cells #[.slice A0_0 l0_0.length c0_0, .bool a0_1] 24 (0, 0)) (by (with_reducible repeat (first | refine blk_drewN ?_ _ | refine blk_drew ?_ | refine blk_alloc ?_ _)); exact BK252.out) hb)
              have n2_ := Aside0.mk (blk_below (g := gb253) (o := .cells #[.int .i64 a1_0, .int .i64 a1_1, .int .i64 a1_2, .int .i64 a1_3, .int .i64 a1_4, .int .i64 a1_5] 26 (0, 0)) (by (with_reducible repeat (first | refine blk_drewN ?_ _ | refine blk_drew ?_ | refine blk_alloc ?_ _)); exact BK253.out) hb)
              have n3_ := Aside0.mk (blk_below (g := gb259) (o := .cells #[.slice Ao15 t255.length co15, .bool t258] 30 (0, 0)) (by (with_reducible repeat (first | refine blk_drewN ?_ _ | refine blk_drew ?_ | refine blk_alloc ?_ _)); exact BK259.out) hb)
              have n4_ := Aside0.mk (blk_below (g := gb264) (o := .cells #[.int .i64 a1_0, .int .i64 a1_1, .int .i64 a1_2, .int .i64 a1_3, .int .i64 a1_4, .int .i64 0] 26 (0, 0)) (by (with_reducible repeat (first | refine blk_drewN ?_ _ | refine blk_drew ?_ | refine blk_alloc ?_ _)); exact BK264.out) hb)
              have n5_ := Aside0.mk (below_step (by repeat (first | (with_reducible first | exact HB.out | apply below_alloc | apply pw_below_drewN | apply below_drew1 | refine below_set ?_ GE252.out | refine below_set ?_ GE253.out | refine below_set ?_ GE259.out | refine below_set ?_ GE264.out) | exact HB.out)) hb)
              clear HO_260000
              clear BK252
              clear BK253
              clear BK259
              clear BK264
              clear HB
              have HO_260000 := n0_
              have BK252 := n1_
              have BK253 := n2_
              have BK259 := n3_
              have BK264 := n4_
              have HB := n5_
              clear n0_ n1_ n2_ n3_ n4_ n5_
              (try clear hb)
              (try clear hb2)
              (try clear hk)
              (try clear hi)
              refine hK.out _ _ ⟨(blk_cell BK259.out 0).trans rfl, (blk_cell BK259.out 1).trans rfl, (blk_cell BK264.out 0).trans rfl, (blk_cell BK264.out 1).trans rfl, (blk_cell BK264.out 2).trans rfl, (blk_cell BK264.out 3).trans rfl, (blk_cell BK264.out 4).trans rfl, (blk_cell BK264.out 5).trans rfl⟩ (fun hHeld => ?_)
              clear hK K
              refine norm_ (a' := ?_) ?_ ?_
              rotate_left
              · show Act.put _ (some 37) _ = _
                simp only [Act.put, List.setIfInBounds_toArray, List.set_cons_zero, List.set_cons_succ, i64_w, i32_w]
                rfl
              refine pure_ (i := 4) (N := some 33) (v := ?_) (a' := ?_) #[true, true, true, true, true, false, false, false, false] rfl rfl (any_of HT_.out (by kernel_rfl)) (fun _ _ _ h => h) (Or.inl ⟨by rfl, ?_⟩) ?_ ?_
              rotate_left
              · intro w'
                go_simp
                with_reducible rfl
              rotate_left
              · simp only [Act.put, List.setIfInBounds_toArray, List.set_cons_zero, List.set_cons_succ, i64_w, i32_w]
                rfl
              refine pure_ (i := 5) (N := some 38) (v := ?_) (a' := ?_) #[true, true, true, true, true, true, false, false, false] rfl rfl (any_of HT_.out (by kernel_rfl)) (fun _ _ _ h => h) (Or.inl ⟨by rfl, ?_⟩) ?_ ?_
              rotate_left
              · intro w'
                go_simp
                with_reducible rfl
              rotate_left
              · simp only [Act.put, List.setIfInBounds_toArray, List.set_cons_zero, List.set_cons_succ, i64_w, i32_w]
                rfl
              refine pure_ (i := 6) (N := some 39) (v := ?_) (a' := ?_) #[true, true, true, true, true, true, true, false, false] rfl rfl (any_of HT_.out (by kernel_rfl)) (fun _ _ _ h => h) (Or.inl ⟨by rfl, ?_⟩) ?_ ?_
              rotate_left
              · intro w'
                go_simp
                with_reducible rfl
              rotate_left
              · simp only [Act.put, List.setIfInBounds_toArray, List.set_cons_zero, List.set_cons_succ, i64_w, i32_w]
                rfl
              refine pure_ (i := 7) (N := some 9) (v := ?_) (a' := ?_) #[true, true, true, true, true, true, true, true, false] rfl rfl (any_of HT_.out (by kernel_rfl)) (fun _ _ _ h => h) (Or.inl ⟨by rfl, ?_⟩) ?_ ?_
              rotate_left
              · intro w'
                go_simp
                with_reducible rfl
              rotate_left
              · simp only [Act.put, List.setIfInBounds_toArray, List.set_cons_zero, List.set_cons_succ, i64_w, i32_w]
                rfl
              refine pure_ (i := 8) (N := some 10) (v := ?_) (a' := ?_) #[true, true, true, true, true, true, true, true, true] rfl rfl (any_of HT_.out (by kernel_rfl)) (fun _ _ _ h => h) (Or.inl ⟨by rfl, ?_⟩) ?_ ?_
              rotate_left
              · intro w'
                go_simp
                with_reducible rfl
              rotate_left
              · simp only [Act.put, List.setIfInBounds_toArray, List.set_cons_zero, List.set_cons_succ, i64_w, i32_w]
                rfl
              refine done_ (done_of HT_.out (by kernel_rfl)) ?_
              try go_wp2
              go_ret
              exact ⟨by first | rfl | (simp [errW_none, errW_some] <;> rfl) | (simp [*, errW_none, errW_some] <;> rfl), by repeat (first | (with_reducible first | exact HB.out | apply below_alloc | apply pw_below_drewN | apply below_drew1 | refine below_set ?_ GE252.out | refine below_set ?_ GE253.out | refine below_set ?_ GE259.out | refine below_set ?_ GE264.out) | exact HB.out)⟩
          · replace c39 := Bool.eq_false_iff.mpr c39
            subst c39
            have H1 : (some false) = some r := by rw [if_neg (show ¬ (false = true) by decide)] at H; exact H
            clear H
            have H := H1
            clear H1
            obtain rfl := Option.some.inj H
            try go_wp2
            have n0_ := Aside0.mk (Kd.S_drew HO_260000.out)
            have n1_ := Aside0.mk (blk_drew BK252.out)
            have n2_ := Aside0.mk (blk_drew BK253.out)
            have n3_ := Aside0.mk (blk_drew BK259.out)
            have n4_ := Aside0.mk (below_drew1 HB.out)
            clear HO_260000
            clear BK252
            clear BK253
            clear BK259
            clear HB
            have HO_260000 := n0_
            have BK252 := n1_
            have BK253 := n2_
            have BK259 := n3_
            have HB := n4_
            clear n0_ n1_ n2_ n3_ n4_
            refine start_ (n := 9) (S := fun w' => w'.cell? ⟨gb259, 0, none⟩ = some (.slice Ao15 t255.length co15) ∧ w'.cell? ⟨gb259, 1, none⟩ = some (.bool t258) ∧ w'.cell? ⟨gb253, 0, none⟩ = some (.int .i64 a1_0) ∧ w'.cell? ⟨gb253, 1, none⟩ = some (.int .i64 a1_1) ∧ w'.cell? ⟨gb253, 2, none⟩ = some (.int .i64 a1_2) ∧ w'.cell? ⟨gb253, 3, none⟩ = some (.int .i64 a1_3) ∧ w'.cell? ⟨gb253, 4, none⟩ = some (.int .i64 a1_4) ∧ w'.cell? ⟨gb253, 5, none⟩ = some (.int .i64 a1_5)) (ds := []) #[false, false, false, false, false, false, false, false, false] (by kernel_rfl) rfl rfl ⟨(blk_cell BK259.out 0).trans rfl, (blk_cell BK259.out 1).trans rfl, (blk_cell BK253.out 0).trans rfl, (blk_cell BK253.out 1).trans rfl, (blk_cell BK253.out 2).trans rfl, (blk_cell BK253.out 3).trans rfl, (blk_cell BK253.out 4).trans rfl, (blk_cell BK253.out 5).trans rfl⟩ (fun hHeld => ?_); refine with_tabW laws_FnSeconds.tab6 laws_FnSeconds.bits6 (fun HT_ HW_ => ?_)
            generalize wc.drew = w88 at HO_260000 BK252 BK253 BK259 HB hHeld ⊢
            refine take_ (i := 0) (N := some 25) (v := ?_) (a' := ?_) #[true, false, false, false, false, false, false, false, false] rfl rfl (take_ofW HT_.out HW_.out (by kernel_rfl)) (fun _ _ _ h => h) (Or.inl ⟨by rfl, ?_⟩) hHeld ?_ ?_
            rotate_left
            · rintro w' ⟨s0, s1, s2, s3, s4, s5, s6, s7⟩
              go_simp
              with_reducible rfl
            rotate_left
            · simp only [Act.put, List.setIfInBounds_toArray, List.set_cons_zero, List.set_cons_succ, i64_w, i32_w]
              rfl
            refine take_ (i := 2) (N := some 27) (v := ?_) (a' := ?_) #[true, false, true, false, false, false, false, false, false] rfl rfl (take_ofW HT_.out HW_.out (by kernel_rfl)) (fun _ _ _ h => h) (Or.inl ⟨by rfl, ?_⟩) hHeld ?_ ?_
            rotate_left
            · rintro w' ⟨s0, s1, s2, s3, s4, s5, s6, s7⟩
              go_simp
              with_reducible rfl
            rotate_left
            · simp only [Act.put, List.setIfInBounds_toArray, List.set_cons_zero, List.set_cons_succ, i64_w, i32_w]
              rfl
            refine one_ (i := 1) (N := some 26) #[true, true, true, false, false, false, false, false, false] rfl rfl (one_of HT_.out (by kernel_rfl)) (by decide) (fun K hK => ?_)
            refine goes_ Tryz.func15 (by kernel_rfl) rfl #[.agg #[.slice Ao15 t255.length co15, .bool t258]] (by rfl) rfl rfl (by (try simp only [List.map_toArray, List.map_cons, List.map_nil]); first | done | rfl | (simp only [List.length_drop, List.length_take]; rfl)) ?_
            with_reducible refine (spec_Text.calls kj5 _ _ t255 t258 t261 _ ?side1 ?side2 A35.out).mono ?_
            (case side1 => repeat (first | exact (Kd.S_reads' HO_260000.out).2.2 | (with_reducible refine Kd.C_alloc ?_ _) | (with_reducible refine Kd.C_drewN ?_ _) | (with_reducible refine Kd.C_drew ?_)))
            (case side2 => exact (Kd.S_reads' HO_260000.out).2.1)
            rintro e w89 ⟨rfl, hb⟩
            refine ⟨_, rfl, ?_⟩
            have n0_ := Aside0.mk (Kd.S_below (by (with_reducible repeat (first | apply Kd.S_alloc | apply Kd.S_drewN | apply Kd.S_drew)); exact HO_260000.out) hb)
            have n1_ := Aside0.mk (blk_below (g := gb252) (o := .cells #[.slice A0_0 l0_0.length c0_0, .bool a0_1] 24 (0, 0)) (by (with_reducible repeat (first | refine blk_drewN ?_ _ | refine blk_drew ?_ | refine blk_alloc ?_ _)); exact BK252.out) hb)
            have n2_ := Aside0.mk (blk_below (g := gb253) (o := .cells #[.int .i64 a1_0, .int .i64 a1_1, .int .i64 a1_2, .int .i64 a1_3, .int .i64 a1_4, .int .i64 a1_5] 26 (0, 0)) (by (with_reducible repeat (first | refine blk_drewN ?_ _ | refine blk_drew ?_ | refine blk_alloc ?_ _)); exact BK253.out) hb)
            have n3_ := Aside0.mk (blk_below (g := gb259) (o := .cells #[.slice Ao15 t255.length co15, .bool t258] 30 (0, 0)) (by (with_reducible repeat (first | refine blk_drewN ?_ _ | refine blk_drew ?_ | refine blk_alloc ?_ _)); exact BK259.out) hb)
            have n4_ := Aside0.mk (below_step (by repeat (first | (with_reducible first | exact HB.out | apply below_alloc | apply pw_below_drewN | apply below_drew1 | refine below_set ?_ GE252.out | refine below_set ?_ GE253.out | refine below_set ?_ GE259.out) | exact HB.out)) hb)
            clear HO_260000
            clear BK252
            clear BK253
            clear BK259
            clear HB
            have HO_260000 := n0_
            have BK252 := n1_
            have BK253 := n2_
            have BK259 := n3_
            have HB := n4_
            clear n0_ n1_ n2_ n3_ n4_
            (try clear hb)
            (try clear hb2)
            (try clear hk)
            (try clear hi)
            refine hK.out _ _ ⟨(blk_cell BK259.out 0).trans rfl, (blk_cell BK259.out 1).trans rfl, (blk_cell BK253.out 0).trans rfl, (blk_cell BK253.out 1).trans rfl, (blk_cell BK253.out 2).trans rfl, (blk_cell BK253.out 3).trans rfl, (blk_cell BK253.out 4).trans rfl, (blk_cell BK253.out 5).trans rfl⟩ (fun hHeld => ?_)
            clear hK K
            refine norm_ (a' := ?_) ?_ ?_
            rotate_left
            · show Act.put _ (some 26) _ = _
              simp only [Act.put, List.setIfInBounds_toArray, List.set_cons_zero, List.set_cons_succ, i64_w, i32_w]
              rfl
            refine one_ (i := 3) (N := some 28) #[true, true, true, true, false, false, false, false, false] rfl rfl (one_of HT_.out (by kernel_rfl)) (by decide) (fun K hK => ?_)
            refine goes_ Tryz.func14 (by kernel_rfl) rfl #[.string t261, .agg #[.int .i64 a1_0, .int .i64 a1_1, .int .i64 a1_2, .int .i64 a1_3, .int .i64 a1_4, .int .i64 a1_5]] (by rfl) rfl rfl (by (try simp only [List.map_toArray, List.map_cons, List.map_nil]); first | done | rfl | (simp only [List.length_drop, List.length_take]; rfl)) ?_
            with_reducible refine (impl_Due.calls t261 a1_0 a1_1 a1_2 a1_3 a1_4 a1_5 t262 false _ A36.out).mono ?_
            rintro e w90 ⟨rfl, hb⟩
            refine ⟨_, rfl, ?_⟩
            have n0_ := Aside0.mk (Kd.S_below (by (with_reducible repeat (first | apply Kd.S_alloc | apply Kd.S_drewN | apply Kd.S_drew)); exact HO_260000.out) hb)
            have n1_ := Aside0.mk (blk_below (g := gb252) (o := .cells #[.slice A0_0 l0_0.length c0_0, .bool a0_1] 24 (0, 0)) (by (with_reducible repeat (first | refine blk_drewN ?_ _ | refine blk_drew ?_ | refine blk_alloc ?_ _)); exact BK252.out) hb)
            have n2_ := Aside0.mk (blk_below (g := gb253) (o := .cells #[.int .i64 a1_0, .int .i64 a1_1, .int .i64 a1_2, .int .i64 a1_3, .int .i64 a1_4, .int .i64 a1_5] 26 (0, 0)) (by (with_reducible repeat (first | refine blk_drewN ?_ _ | refine blk_drew ?_ | refine blk_alloc ?_ _)); exact BK253.out) hb)
            have n3_ := Aside0.mk (blk_below (g := gb259) (o := .cells #[.slice Ao15 t255.length co15, .bool t258] 30 (0, 0)) (by (with_reducible repeat (first | refine blk_drewN ?_ _ | refine blk_drew ?_ | refine blk_alloc ?_ _)); exact BK259.out) hb)
            have n4_ := Aside0.mk (below_step (by repeat (first | (with_reducible first | exact HB.out | apply below_alloc | apply pw_below_drewN | apply below_drew1 | refine below_set ?_ GE252.out | refine below_set ?_ GE253.out | refine below_set ?_ GE259.out) | exact HB.out)) hb)
            clear HO_260000
            clear BK252
            clear BK253
            clear BK259
            clear HB
            have HO_260000 := n0_
            have BK252 := n1_
            have BK253 := n2_
            have BK259 := n3_
            have HB := n4_
            clear n0_ n1_ n2_ n3_ n4_
            (try clear hb)
            (try clear hb2)
            (try clear hk)
            (try clear hi)
            refine hK.out _ _ ⟨(blk_cell BK259.out 0).trans rfl, (blk_cell BK259.out 1).trans rfl, (blk_cell BK253.out 0).trans rfl, (blk_cell BK253.out 1).trans rfl, (blk_cell BK253.out 2).trans rfl, (blk_cell BK253.out 3).trans rfl, (blk_cell BK253.out 4).trans rfl, (blk_cell BK253.out 5).trans rfl⟩ (fun hHeld => ?_)
            clear hK K
            refine norm_ (a' := ?_) ?_ ?_
            rotate_left
            · show Act.put _ (some 28) _ = _
              simp only [Act.put, List.setIfInBounds_toArray, List.set_cons_zero, List.set_cons_succ, i64_w, i32_w]
              rfl
            refine pure_ (i := 4) (N := some 24) (v := ?_) (a' := ?_) #[true, true, true, true, true, false, false, false, false] rfl rfl (any_of HT_.out (by kernel_rfl)) (fun _ _ _ h => h) (Or.inl ⟨by rfl, ?_⟩) ?_ ?_
            rotate_left
            · intro w'
              go_simp
              with_reducible rfl
            rotate_left
            · simp only [Act.put, List.setIfInBounds_toArray, List.set_cons_zero, List.set_cons_succ, i64_w, i32_w]
              rfl
            refine pure_ (i := 5) (N := some 29) (v := ?_) (a' := ?_) #[true, true, true, true, true, true, false, false, false] rfl rfl (any_of HT_.out (by kernel_rfl)) (fun _ _ _ h => h) (Or.inl ⟨by rfl, ?_⟩) ?_ ?_
            rotate_left
            · intro w'
              go_simp
              with_reducible rfl
            rotate_left
            · simp only [Act.put, List.setIfInBounds_toArray, List.set_cons_zero, List.set_cons_succ, i64_w, i32_w]
              rfl
            refine pure_ (i := 6) (N := some 30) (v := ?_) (a' := ?_) #[true, true, true, true, true, true, true, false, false] rfl rfl (any_of HT_.out (by kernel_rfl)) (fun _ _ _ h => h) (Or.inl ⟨by rfl, ?_⟩) ?_ ?_
            rotate_left
            · intro w'
              go_simp
              with_reducible rfl
            rotate_left
            · simp only [Act.put, List.setIfInBounds_toArray, List.set_cons_zero, List.set_cons_succ, i64_w, i32_w]
              rfl
            refine pure_ (i := 7) (N := some 6) (v := ?_) (a' := ?_) #[true, true, true, true, true, true, true, true, false] rfl rfl (any_of HT_.out (by kernel_rfl)) (fun _ _ _ h => h) (Or.inl ⟨by rfl, ?_⟩) ?_ ?_
            rotate_left
            · intro w'
              go_simp
              with_reducible rfl
            rotate_left
            · simp only [Act.put, List.setIfInBounds_toArray, List.set_cons_zero, List.set_cons_succ, i64_w, i32_w]
              rfl
            refine pure_ (i := 8) (N := some 7) (v := ?_) (a' := ?_) #[true, true, true, true, true, true, true, true, true] rfl rfl (any_of HT_.out (by kernel_rfl)) (fun _ _ _ h => h) (Or.inl ⟨by rfl, ?_⟩) ?_ ?_
            rotate_left
            · intro w'
              go_simp
              with_reducible rfl
            rotate_left
            · simp only [Act.put, List.setIfInBounds_toArray, List.set_cons_zero, List.set_cons_succ, i64_w, i32_w]
              rfl
            refine done_ (done_of HT_.out (by kernel_rfl)) ?_
            have hnb91 := NB253_252.out
            have hnc91 := NB252_253.out
            have hnb92 := NB253_259.out
            have hnc92 := NB259_253.out
            have hcz93_0 : w90.cell? ⟨gb253, 0, none⟩ = some (.int .i64 a1_0) := (blk_cell BK253.out 0).trans rfl
            have hcz93_1 : w90.cell? ⟨gb253, 1, none⟩ = some (.int .i64 a1_1) := (blk_cell BK253.out 1).trans rfl
            have hcz93_2 : w90.cell? ⟨gb253, 2, none⟩ = some (.int .i64 a1_2) := (blk_cell BK253.out 2).trans rfl
            have hcz93_3 : w90.cell? ⟨gb253, 3, none⟩ = some (.int .i64 a1_3) := (blk_cell BK253.out 3).trans rfl
            have hcz93_4 : w90.cell? ⟨gb253, 4, none⟩ = some (.int .i64 a1_4) := (blk_cell BK253.out 4).trans rfl
            have hcz93_5 : w90.cell? ⟨gb253, 5, none⟩ = some (.int .i64 a1_5) := (blk_cell BK253.out 5).trans rfl
            have hfz93_0 := blk_frozen BK253.out 0
            have hfz93_1 := blk_frozen BK253.out 1
            have hfz93_2 := blk_frozen BK253.out 2
            have hfz93_3 := blk_frozen BK253.out 3
            have hfz93_4 := blk_frozen BK253.out 4
            have hfz93_5 := blk_frozen BK253.out 5
            try go_wp2_with (first | ((with_reducible refine gate_dst (N := 8) rfl ?_); refine box_event ?hg (N := 8) ?hd (cs := #[.int .i64 0, .int .i64 0, .int .i64 0, .int .i64 0, .int .i64 0, .int .i64 0]) (t := 26) ?hr ?_; (case hd => rfl); (case hg => rfl); (case hr => first | (go_simp; done) | (go_simp; rfl)); intro gb264 hg w94 hbox hb; have n0_ := Aside0.mk (Kd.S_below (by (with_reducible repeat (first | apply Kd.S_alloc | apply Kd.S_drewN | apply Kd.S_drew)); exact HO_260000.out) hb); have n1_ := Aside0.mk (blk_below (g := gb252) (o := .cells #[.slice A0_0 l0_0.length c0_0, .bool a0_1] 24 (0, 0)) (by (with_reducible repeat (first | refine blk_drewN ?_ _ | refine blk_drew ?_ | refine blk_alloc ?_ _)); exact BK252.out) hb); have n2_ := Aside0.mk (blk_below (g := gb253) (o := .cells #[.int .i64 a1_0, .int .i64 a1_1, .int .i64 a1_2, .int .i64 a1_3, .int .i64 a1_4, .int .i64 a1_5] 26 (0, 0)) (by (with_reducible repeat (first | refine blk_drewN ?_ _ | refine blk_drew ?_ | refine blk_alloc ?_ _)); exact BK253.out) hb); have n3_ := Aside0.mk (blk_below (g := gb259) (o := .cells #[.slice Ao15 t255.length co15, .bool t258] 30 (0, 0)) (by (with_reducible repeat (first | refine blk_drewN ?_ _ | refine blk_drew ?_ | refine blk_alloc ?_ _)); exact BK259.out) hb); have n4_ := Aside0.mk (below_step (by repeat (first | (with_reducible first | exact HB.out | apply below_alloc | apply pw_below_drewN | apply below_drew1 | refine below_set ?_ GE252.out | refine below_set ?_ GE253.out | refine below_set ?_ GE259.out) | exact HB.out)) hb); have n5_ := Aside0.mk (hbox); have n6_ := Aside0.mk ((by rw [hg]; exact (below_size (by repeat (first | (with_reducible first | exact HB.out | apply below_alloc | apply pw_below_drewN | apply below_drew1 | refine below_set ?_ GE252.out | refine below_set ?_ GE253.out | refine below_set ?_ GE259.out) | exact HB.out))) : w.heap.size ≤ gb264)); have n7_ := Aside0.mk ((by rw [hg]; exact (below_size (by repeat (first | (with_reducible first | exact HB.out | apply below_alloc | apply pw_below_drewN | apply below_drew1 | refine below_set ?_ GE252.out | refine below_set ?_ GE253.out | refine below_set ?_ GE259.out) | exact HB.out))) : w.heap.size ≤ gb264)); have n8_ := Aside0.mk ((by rw [hg]; exact Nat.ne_of_lt (blk_lt (g := gb252) (o := .cells #[.slice A0_0 l0_0.length c0_0, .bool a0_1] 24 (0, 0)) (by (with_reducible repeat (first | refine blk_drewN ?_ _ | refine blk_drew ?_ | refine blk_alloc ?_ _)); exact BK252.out)) : gb252 ≠ gb264)); have n9_ := Aside0.mk ((by rw [hg]; exact Nat.ne_of_gt (blk_lt (g := gb252) (o := .cells #[.slice A0_0 l0_0.length c0_0, .bool a0_1] 24 (0, 0)) (by (with_reducible repeat (first | refine blk_drewN ?_ _ | refine blk_drew ?_ | refine blk_alloc ?_ _)); exact BK252.out)) : gb264 ≠ gb252)); have n10_ := Aside0.mk ((by rw [hg]; exact Nat.ne_of_lt (blk_lt (g := gb253) (o := .cells #[.int .i64 a1_0, .int .i64 a1_1, .int .i64 a1_2, .int .i64 a1_3, .int .i64 a1_4, .int .i64 a1_5] 26 (0, 0)) (by (with_reducible repeat (first | refine blk_drewN ?_ _ | refine blk_drew ?_ | refine blk_alloc ?_ _)); exact BK253.out)) : gb253 ≠ gb264)); have n11_ := Aside0.mk ((by rw [hg]; exact Nat.ne_of_gt (blk_lt (g := gb253) (o := .cells #[.int .i64 a1_0, .int .i64 a1_1, .int .i64 a1_2, .int .i64 a1_3, .int .i64 a1_4, .int .i64 a1_5] 26 (0, 0)) (by (with_reducible repeat (first | refine blk_drewN ?_ _ | refine blk_drew ?_ | refine blk_alloc ?_ _)); exact BK253.out)) : gb264 ≠ gb253)); have n12_ := Aside0.mk ((by rw [hg]; exact Nat.ne_of_lt (blk_lt (g := gb259) (o := .cells #[.slice Ao15 t255.length co15, .bool t258] 30 (0, 0)) (by (with_reducible repeat (first | refine blk_drewN ?_ _ | refine blk_drew ?_ | refine blk_alloc ?_ _)); exact BK259.out)) : gb259 ≠ gb264)); have n13_ := Aside0.mk ((by rw [hg]; exact Nat.ne_of_gt (blk_lt (g := gb259) (o := .cells #[.slice Ao15 t255.length co15, .bool t258] 30 (0, 0)) (by (with_reducible repeat (first | refine blk_drewN ?_ _ | refine blk_drew ?_ | refine blk_alloc ?_ _)); exact BK259.out)) : gb264 ≠ gb259)); clear HO_260000; clear BK252; clear BK253; clear BK259; clear HB; have HO_260000 := n0_; have BK252 := n1_; have BK253 := n2_; have BK259 := n3_; have HB := n4_; have BK264 := n5_; have GW264 := n6_; have GE264 := n7_; have NB252_264 := n8_; have NB264_252 := n9_; have NB253_264 := n10_; have NB264_253 := n11_; have NB259_264 := n12_; have NB264_259 := n13_; clear n0_ n1_ n2_ n3_ n4_ n5_ n6_ n7_ n8_ n9_ n10_ n11_ n12_ n13_; clear hb hbox hg; have hnb95 := NB264_252.out; have hnc95 := NB252_264.out; have hnb96 := NB264_253.out; have hnc96 := NB253_264.out; have hnb97 := NB264_259.out; have hnc97 := NB259_264.out; have hcz98_0 : w94.cell? ⟨gb264, 0, none⟩ = some (.int .i64 0) := (blk_cell BK264.out 0).trans rfl; have hcz98_1 : w94.cell? ⟨gb264, 1, none⟩ = some (.int .i64 0) := (blk_cell BK264.out 1).trans rfl; have hcz98_2 : w94.cell? ⟨gb264, 2, none⟩ = some (.int .i64 0) := (blk_cell BK264.out 2).trans rfl; have hcz98_3 : w94.cell? ⟨gb264, 3, none⟩ = some (.int .i64 0) := (blk_cell BK264.out 3).trans rfl; have hcz98_4 : w94.cell? ⟨gb264, 4, none⟩ = some (.int .i64 0) := (blk_cell BK264.out 4).trans rfl; have hcz98_5 : w94.cell? ⟨gb264, 5, none⟩ = some (.int .i64 0) := (blk_cell BK264.out 5).trans rfl; have hfz98_0 := blk_frozen BK264.out 0; have hfz98_1 := blk_frozen BK264.out 1; have hfz98_2 := blk_frozen BK264.out 2; have hfz98_3 := blk_frozen BK264.out 3; have hfz98_4 := blk_frozen BK264.out 4; have hfz98_5 := blk_frozen BK264.out 5))
            have n0_ : Aside0 (Kd.S (Kd.slice 38 k38) 36 (((((((w94.setCell ⟨gb264, 0, none⟩ (.int .i64 a1_0)).setCell ⟨gb264, 1, none⟩ (.int .i64 a1_1)).setCell ⟨gb264, 2, none⟩ (.int .i64 a1_2)).setCell ⟨gb264, 3, none⟩ (.int .i64 a1_3)).setCell ⟨gb264, 4, none⟩ (.int .i64 a1_4)).setCell ⟨gb264, 5, none⟩ (.int .i64 a1_5)).setCell ⟨gb264, 5, none⟩ (.int .i64 0)) w.heap.size (fun _ => True) (.slice Ao15 t255.length co15) t255) := ⟨by (with_reducible repeat (first | apply Kd.S_alloc | apply Kd.S_drewN | apply Kd.S_drew)); exact Kd.S_mono (Kd.S_far (p := ⟨gb264, 5, none⟩) (Kd.S_far (p := ⟨gb264, 5, none⟩) (Kd.S_far (p := ⟨gb264, 4, none⟩) (Kd.S_far (p := ⟨gb264, 3, none⟩) (Kd.S_far (p := ⟨gb264, 2, none⟩) (Kd.S_far (p := ⟨gb264, 1, none⟩) (Kd.S_far (p := ⟨gb264, 0, none⟩) (Kd.S_types HO_260000.out BK264.out (by decide)) (fun _ hk => hk.2) (.int .i64 a1_0)) (fun _ hk => hk.2) (.int .i64 a1_1)) (fun _ hk => hk.2) (.int .i64 a1_2)) (fun _ hk => hk.2) (.int .i64 a1_3)) (fun _ hk => hk.2) (.int .i64 a1_4)) (fun _ hk => hk.2) (.int .i64 a1_5)) (fun _ hk => hk.2) (.int .i64 0)) (fun _ hk => trivial)⟩
            have n1_ : Aside0 ((((((((w94.setCell ⟨gb264, 0, none⟩ (.int .i64 a1_0)).setCell ⟨gb264, 1, none⟩ (.int .i64 a1_1)).setCell ⟨gb264, 2, none⟩ (.int .i64 a1_2)).setCell ⟨gb264, 3, none⟩ (.int .i64 a1_3)).setCell ⟨gb264, 4, none⟩ (.int .i64 a1_4)).setCell ⟨gb264, 5, none⟩ (.int .i64 a1_5)).setCell ⟨gb264, 5, none⟩ (.int .i64 0)).heap[gb252]? = some (.cells #[.slice A0_0 l0_0.length c0_0, .bool a0_1] 24 (0, 0))) := ⟨by (with_reducible repeat (first | refine blk_drewN ?_ _ | refine blk_drew ?_ | refine blk_alloc ?_ _)); refine blk_far ?_ NB252_264.out _; (with_reducible repeat (first | refine blk_drewN ?_ _ | refine blk_drew ?_ | refine blk_alloc ?_ _)); refine blk_far ?_ NB252_264.out _; (with_reducible repeat (first | refine blk_drewN ?_ _ | refine blk_drew ?_ | refine blk_alloc ?_ _)); refine blk_far ?_ NB252_264.out _; (with_reducible repeat (first | refine blk_drewN ?_ _ | refine blk_drew ?_ | refine blk_alloc ?_ _)); refine blk_far ?_ NB252_264.out _; (with_reducible repeat (first | refine blk_drewN ?_ _ | refine blk_drew ?_ | refine blk_alloc ?_ _)); refine blk_far ?_ NB252_264.out _; (with_reducible repeat (first | refine blk_drewN ?_ _ | refine blk_drew ?_ | refine blk_alloc ?_ _)); refine blk_far ?_ NB252_264.out _; (with_reducible repeat (first | refine blk_drewN ?_ _ | refine blk_drew ?_ | refine blk_alloc ?_ _)); refine blk_far ?_ NB252_264.out _; (with_reducible repeat (first | refine blk_drewN ?_ _ | refine blk_drew ?_ | refine blk_alloc ?_ _)); exact BK252.out⟩
            have n2_ : Aside0 ((((((((w94.setCell ⟨gb264, 0, none⟩ (.int .i64 a1_0)).setCell ⟨gb264, 1, none⟩ (.int .i64 a1_1)).setCell ⟨gb264, 2, none⟩ (.int .i64 a1_2)).setCell ⟨gb264, 3, none⟩ (.int .i64 a1_3)).setCell ⟨gb264, 4, none⟩ (.int .i64 a1_4)).setCell ⟨gb264, 5, none⟩ (.int .i64 a1_5)).setCell ⟨gb264, 5, none⟩ (.int .i64 0)).heap[gb253]? = some (.cells #[.int .i64 a1_0, .int .i64 a1_1, .int .i64 a1_2, .int .i64 a1_3, .int .i64 a1_4, .int .i64 a1_5] 26 (0, 0))) := ⟨by (with_reducible repeat (first | refine blk_drewN ?_ _ | refine blk_drew ?_ | refine blk_alloc ?_ _)); refine blk_far ?_ NB253_264.out _; (with_reducible repeat (first | refine blk_drewN ?_ _ | refine blk_drew ?_ | refine blk_alloc ?_ _)); refine blk_far ?_ NB253_264.out _; (with_reducible repeat (first | refine blk_drewN ?_ _ | refine blk_drew ?_ | refine blk_alloc ?_ _)); refine blk_far ?_ NB253_264.out _; (with_reducible repeat (first | refine blk_drewN ?_ _ | refine blk_drew ?_ | refine blk_alloc ?_ _)); refine blk_far ?_ NB253_264.out _; (with_reducible repeat (first | refine blk_drewN ?_ _ | refine blk_drew ?_ | refine blk_alloc ?_ _)); refine blk_far ?_ NB253_264.out _; (with_reducible repeat (first | refine blk_drewN ?_ _ | refine blk_drew ?_ | refine blk_alloc ?_ _)); refine blk_far ?_ NB253_264.out _; (with_reducible repeat (first | refine blk_drewN ?_ _ | refine blk_drew ?_ | refine blk_alloc ?_ _)); refine blk_far ?_ NB253_264.out _; (with_reducible repeat (first | refine blk_drewN ?_ _ | refine blk_drew ?_ | refine blk_alloc ?_ _)); exact BK253.out⟩
            have n3_ : Aside0 ((((((((w94.setCell ⟨gb264, 0, none⟩ (.int .i64 a1_0)).setCell ⟨gb264, 1, none⟩ (.int .i64 a1_1)).setCell ⟨gb264, 2, none⟩ (.int .i64 a1_2)).setCell ⟨gb264, 3, none⟩ (.int .i64 a1_3)).setCell ⟨gb264, 4, none⟩ (.int .i64 a1_4)).setCell ⟨gb264, 5, none⟩ (.int .i64 a1_5)).setCell ⟨gb264, 5, none⟩ (.int .i64 0)).heap[gb259]? = some (.cells #[.slice Ao15 t255.length co15, .bool t258] 30 (0, 0))) := ⟨by (with_reducible repeat (first | refine blk_drewN ?_ _ | refine blk_drew ?_ | refine blk_alloc ?_ _)); refine blk_far ?_ NB259_264.out _; (with_reducible repeat (first | refine blk_drewN ?_ _ | refine blk_drew ?_ | refine blk_alloc ?_ _)); refine blk_far ?_ NB259_264.out _; (with_reducible repeat (first | refine blk_drewN ?_ _ | refine blk_drew ?_ | refine blk_alloc ?_ _)); refine blk_far ?_ NB259_264.out _; (with_reducible repeat (first | refine blk_drewN ?_ _ | refine blk_drew ?_ | refine blk_alloc ?_ _)); refine blk_far ?_ NB259_264.out _; (with_reducible repeat (first | refine blk_drewN ?_ _ | refine blk_drew ?_ | refine blk_alloc ?_ _)); refine blk_far ?_ NB259_264.out _; (with_reducible repeat (first | refine blk_drewN ?_ _ | refine blk_drew ?_ | refine blk_alloc ?_ _)); refine blk_far ?_ NB259_264.out _; (with_reducible repeat (first | refine blk_drewN ?_ _ | refine blk_drew ?_ | refine blk_alloc ?_ _)); refine blk_far ?_ NB259_264.out _; (with_reducible repeat (first | refine blk_drewN ?_ _ | refine blk_drew ?_ | refine blk_alloc ?_ _)); exact BK259.out⟩
            have n4_ : Aside0 ((((((((w94.setCell ⟨gb264, 0, none⟩ (.int .i64 a1_0)).setCell ⟨gb264, 1, none⟩ (.int .i64 a1_1)).setCell ⟨gb264, 2, none⟩ (.int .i64 a1_2)).setCell ⟨gb264, 3, none⟩ (.int .i64 a1_3)).setCell ⟨gb264, 4, none⟩ (.int .i64 a1_4)).setCell ⟨gb264, 5, none⟩ (.int .i64 a1_5)).setCell ⟨gb264, 5, none⟩ (.int .i64 0)).heap[gb264]? = some (.cells #[.int .i64 a1_0, .int .i64 a1_1, .int .i64 a1_2, .int .i64 a1_3, .int .i64 a1_4, .int .i64 0] 26 (0, 0))) := ⟨by (with_reducible repeat (first | refine blk_drewN ?_ _ | refine blk_drew ?_ | refine blk_alloc ?_ _)); refine blk_put (cs := #[.int .i64 a1_0, .int .i64 a1_1, .int .i64 a1_2, .int .i64 a1_3, .int .i64 a1_4, .int .i64 a1_5]) ?_ 5 _ rfl; (with_reducible repeat (first | refine blk_drewN ?_ _ | refine blk_drew ?_ | refine blk_alloc ?_ _)); refine blk_put (cs := #[.int .i64 a1_0, .int .i64 a1_1, .int .i64 a1_2, .int .i64 a1_3, .int .i64 a1_4, .int .i64 0]) ?_ 5 _ rfl; (with_reducible repeat (first | refine blk_drewN ?_ _ | refine blk_drew ?_ | refine blk_alloc ?_ _)); refine blk_put (cs := #[.int .i64 a1_0, .int .i64 a1_1, .int .i64 a1_2, .int .i64 a1_3, .int .i64 0, .int .i64 0]) ?_ 4 _ rfl; (with_reducible repeat (first | refine blk_drewN ?_ _ | refine blk_drew ?_ | refine blk_alloc ?_ _)); refine blk_put (cs := #[.int .i64 a1_0, .int .i64 a1_1, .int .i64 a1_2, .int .i64 0, .int .i64 0, .int .i64 0]) ?_ 3 _ rfl; (with_reducible repeat (first | refine blk_drewN ?_ _ | refine blk_drew ?_ | refine blk_alloc ?_ _)); refine blk_put (cs := #[.int .i64 a1_0, .int .i64 a1_1, .int .i64 0, .int .i64 0, .int .i64 0, .int .i64 0]) ?_ 2 _ rfl; (with_reducible repeat (first | refine blk_drewN ?_ _ | refine blk_drew ?_ | refine blk_alloc ?_ _)); refine blk_put (cs := #[.int .i64 a1_0, .int .i64 0, .int .i64 0, .int .i64 0, .int .i64 0, .int .i64 0]) ?_ 1 _ rfl; (with_reducible repeat (first | refine blk_drewN ?_ _ | refine blk_drew ?_ | refine blk_alloc ?_ _)); refine blk_put (cs := #[.int .i64 0, .int .i64 0, .int .i64 0, .int .i64 0, .int .i64 0, .int .i64 0]) ?_ 0 _ rfl; (with_reducible repeat (first | refine blk_drewN ?_ _ | refine blk_drew ?_ | refine blk_alloc ?_ _)); exact BK264.out⟩
            have n5_ : Aside0 (Below w.heap.size w (((((((w94.setCell ⟨gb264, 0, none⟩ (.int .i64 a1_0)).setCell ⟨gb264, 1, none⟩ (.int .i64 a1_1)).setCell ⟨gb264, 2, none⟩ (.int .i64 a1_2)).setCell ⟨gb264, 3, none⟩ (.int .i64 a1_3)).setCell ⟨gb264, 4, none⟩ (.int .i64 a1_4)).setCell ⟨gb264, 5, none⟩ (.int .i64 a1_5)).setCell ⟨gb264, 5, none⟩ (.int .i64 0))) := ⟨by repeat (first | (with_reducible first | exact HB.out | apply below_alloc | apply pw_below_drewN | apply below_drew1 | refine below_set ?_ GE252.out | refine below_set ?_ GE253.out | refine below_set ?_ GE259.out | refine below_set ?_ GE264.out) | exact HB.out)⟩
            (try clear HO_260000)
            (try clear BK252)
            (try clear BK253)
            (try clear BK259)
            (try clear BK264)
            (try clear HB)
            generalize (((((((w94.setCell ⟨gb264, 0, none⟩ (.int .i64 a1_0)).setCell ⟨gb264, 1, none⟩ (.int .i64 a1_1)).setCell ⟨gb264, 2, none⟩ (.int .i64 a1_2)).setCell ⟨gb264, 3, none⟩ (.int .i64 a1_3)).setCell ⟨gb264, 4, none⟩ (.int .i64 a1_4)).setCell ⟨gb264, 5, none⟩ (.int .i64 a1_5)).setCell ⟨gb264, 5, none⟩ (.int .i64 0)) = w99 at n0_ n1_ n2_ n3_ n4_ n5_ ⊢
            have HO_260000 := n0_
            have BK252 := n1_
            have BK253 := n2_
            have BK259 := n3_
            have BK264 := n4_
            have HB := n5_
            clear n0_ n1_ n2_ n3_ n4_ n5_
            have n0_ := Aside0.mk (Kd.S_drew HO_260000.out)
            have n1_ := Aside0.mk (blk_drew BK252.out)
            have n2_ := Aside0.mk (blk_drew BK253.out)
            have n3_ := Aside0.mk (blk_drew BK259.out)
            have n4_ := Aside0.mk (blk_drew BK264.out)
            have n5_ := Aside0.mk (below_drew1 HB.out)
            clear HO_260000
            clear BK252
            clear BK253
            clear BK259
            clear BK264
            clear HB
            have HO_260000 := n0_
            have BK252 := n1_
            have BK253 := n2_
            have BK259 := n3_
            have BK264 := n4_
            have HB := n5_
            clear n0_ n1_ n2_ n3_ n4_ n5_
            refine start_ (n := 9) (S := fun w' => w'.cell? ⟨gb259, 0, none⟩ = some (.slice Ao15 t255.length co15) ∧ w'.cell? ⟨gb259, 1, none⟩ = some (.bool t258) ∧ w'.cell? ⟨gb264, 0, none⟩ = some (.int .i64 a1_0) ∧ w'.cell? ⟨gb264, 1, none⟩ = some (.int .i64 a1_1) ∧ w'.cell? ⟨gb264, 2, none⟩ = some (.int .i64 a1_2) ∧ w'.cell? ⟨gb264, 3, none⟩ = some (.int .i64 a1_3) ∧ w'.cell? ⟨gb264, 4, none⟩ = some (.int .i64 a1_4) ∧ w'.cell? ⟨gb264, 5, none⟩ = some (.int .i64 0)) (ds := []) #[false, false, false, false, false, false, false, false, false] (by kernel_rfl) rfl rfl ⟨(blk_cell BK259.out 0).trans rfl, (blk_cell BK259.out 1).trans rfl, (blk_cell BK264.out 0).trans rfl, (blk_cell BK264.out 1).trans rfl, (blk_cell BK264.out 2).trans rfl, (blk_cell BK264.out 3).trans rfl, (blk_cell BK264.out 4).trans rfl, (blk_cell BK264.out 5).trans rfl⟩ (fun hHeld => ?_); refine with_tabW laws_FnSeconds.tab9 laws_FnSeconds.bits9 (fun HT_ HW_ => ?_)
            generalize w99.drew = w100 at HO_260000 BK252 BK253 BK259 BK264 HB hHeld ⊢
            refine take_ (i := 0) (N := some 34) (v := ?_) (a' := ?_) #[true, false, false, false, false, false, false, false, false] rfl rfl (take_ofW HT_.out HW_.out (by kernel_rfl)) (fun _ _ _ h => h) (Or.inl ⟨by rfl, ?_⟩) hHeld ?_ ?_
            rotate_left
            · rintro w' ⟨s0, s1, s2, s3, s4, s5, s6, s7⟩
              go_simp
              with_reducible rfl
            rotate_left
            · simp only [Act.put, List.setIfInBounds_toArray, List.set_cons_zero, List.set_cons_succ, i64_w, i32_w]
              rfl
            refine take_ (i := 2) (N := some 36) (v := ?_) (a' := ?_) #[true, false, true, false, false, false, false, false, false] rfl rfl (take_ofW HT_.out HW_.out (by kernel_rfl)) (fun _ _ _ h => h) (Or.inl ⟨by rfl, ?_⟩) hHeld ?_ ?_
            rotate_left
            · rintro w' ⟨s0, s1, s2, s3, s4, s5, s6, s7⟩
              go_simp
              with_reducible rfl
            rotate_left
            · simp only [Act.put, List.setIfInBounds_toArray, List.set_cons_zero, List.set_cons_succ, i64_w, i32_w]
              rfl
            refine one_ (i := 1) (N := some 35) #[true, true, true, false, false, false, false, false, false] rfl rfl (one_of HT_.out (by kernel_rfl)) (by decide) (fun K hK => ?_)
            refine goes_ Tryz.func15 (by kernel_rfl) rfl #[.agg #[.slice Ao15 t255.length co15, .bool t258]] (by rfl) rfl rfl (by (try simp only [List.map_toArray, List.map_cons, List.map_nil]); first | done | rfl | (simp only [List.length_drop, List.length_take]; rfl)) ?_
            with_reducible refine (spec_Text.calls kj5 _ _ t255 t258 t265 _ ?side1 ?side2 A37.out).mono ?_
            (case side1 => repeat (first | exact (Kd.S_reads' HO_260000.out).2.2 | (with_reducible refine Kd.C_alloc ?_ _) | (with_reducible refine Kd.C_drewN ?_ _) | (with_reducible refine Kd.C_drew ?_)))
            (case side2 => exact (Kd.S_reads' HO_260000.out).2.1)
            rintro e w101 ⟨rfl, hb⟩
            refine ⟨_, rfl, ?_⟩
            have n0_ := Aside0.mk (Kd.S_below (by (with_reducible repeat (first | apply Kd.S_alloc | apply Kd.S_drewN | apply Kd.S_drew)); exact HO_260000.out) hb)
            have n1_ := Aside0.mk (blk_below (g := gb252) (o := .cells #[.slice A0_0 l0_0.length c0_0, .bool a0_1] 24 (0, 0)) (by (with_reducible repeat (first | refine blk_drewN ?_ _ | refine blk_drew ?_ | refine blk_alloc ?_ _)); exact BK252.out) hb)
            have n2_ := Aside0.mk (blk_below (g := gb253) (o := .cells #[.int .i64 a1_0, .int .i64 a1_1, .int .i64 a1_2, .int .i64 a1_3, .int .i64 a1_4, .int .i64 a1_5] 26 (0, 0)) (by (with_reducible repeat (first | refine blk_drewN ?_ _ | refine blk_drew ?_ | refine blk_alloc ?_ _)); exact BK253.out) hb)
            have n3_ := Aside0.mk (blk_below (g := gb259) (o := .cells #[.slice Ao15 t255.length co15, .bool t258] 30 (0, 0)) (by (with_reducible repeat (first | refine blk_drewN ?_ _ | refine blk_drew ?_ | refine blk_alloc ?_ _)); exact BK259.out) hb)
            have n4_ := Aside0.mk (blk_below (g := gb264) (o := .cells #[.int .i64 a1_0, .int .i64 a1_1, .int .i64 a1_2, .int .i64 a1_3, .int .i64 a1_4, .int .i64 0] 26 (0, 0)) (by (with_reducible repeat (first | refine blk_drewN ?_ _ | refine blk_drew ?_ | refine blk_alloc ?_ _)); exact BK264.out) hb)
            have n5_ := Aside0.mk (below_step (by repeat (first | (with_reducible first | exact HB.out | apply below_alloc | apply pw_below_drewN | apply below_drew1 | refine below_set ?_ GE252.out | refine below_set ?_ GE253.out | refine below_set ?_ GE259.out | refine below_set ?_ GE264.out) | exact HB.out)) hb)
            clear HO_260000
            clear BK252
            clear BK253
            clear BK259
            clear BK264
            clear HB
            have HO_260000 := n0_
            have BK252 := n1_
            have BK253 := n2_
            have BK259 := n3_
            have BK264 := n4_
            have HB := n5_
            clear n0_ n1_ n2_ n3_ n4_ n5_
            (try clear hb)
            (try clear hb2)
            (try clear hk)
            (try clear hi)
            refine hK.out _ _ ⟨(blk_cell BK259.out 0).trans rfl, (blk_cell BK259.out 1).trans rfl, (blk_cell BK264.out 0).trans rfl, (blk_cell BK264.out 1).trans rfl, (blk_cell BK264.out 2).trans rfl, (blk_cell BK264.out 3).trans rfl, (blk_cell BK264.out 4).trans rfl, (blk_cell BK264.out 5).trans rfl⟩ (fun hHeld => ?_)
            clear hK K
            refine norm_ (a' := ?_) ?_ ?_
            rotate_left
            · show Act.put _ (some 35) _ = _
              simp only [Act.put, List.setIfInBounds_toArray, List.set_cons_zero, List.set_cons_succ, i64_w, i32_w]
              rfl
            refine one_ (i := 3) (N := some 37) #[true, true, true, true, false, false, false, false, false] rfl rfl (one_of HT_.out (by kernel_rfl)) (by decide) (fun K hK => ?_)
            refine goes_ Tryz.func14 (by kernel_rfl) rfl #[.string t265, .agg #[.int .i64 a1_0, .int .i64 a1_1, .int .i64 a1_2, .int .i64 a1_3, .int .i64 a1_4, .int .i64 0]] (by rfl) rfl rfl (by (try simp only [List.map_toArray, List.map_cons, List.map_nil]); first | done | rfl | (simp only [List.length_drop, List.length_take]; rfl)) ?_
            with_reducible refine (impl_Due.calls t265 a1_0 a1_1 a1_2 a1_3 a1_4 0 t266 t267 _ A38.out).mono ?_
            rintro e w102 ⟨rfl, hb⟩
            refine ⟨_, rfl, ?_⟩
            have n0_ := Aside0.mk (Kd.S_below (by (with_reducible repeat (first | apply Kd.S_alloc | apply Kd.S_drewN | apply Kd.S_drew)); exact HO_260000.out) hb)
            have n1_ := Aside0.mk (blk_below (g := gb252) (o := .cells #[.slice A0_0 l0_0.length c0_0, .bool a0_1] 24 (0, 0)) (by (with_reducible repeat (first | refine blk_drewN ?_ _ | refine blk_drew ?_ | refine blk_alloc ?_ _)); exact BK252.out) hb)
            have n2_ := Aside0.mk (blk_below (g := gb253) (o := .cells #[.int .i64 a1_0, .int .i64 a1_1, .int .i64 a1_2, .int .i64 a1_3, .int .i64 a1_4, .int .i64 a1_5] 26 (0, 0)) (by (with_reducible repeat (first | refine blk_drewN ?_ _ | refine blk_drew ?_ | refine blk_alloc ?_ _)); exact BK253.out) hb)
            have n3_ := Aside0.mk (blk_below (g := gb259) (o := .cells #[.slice Ao15 t255.length co15, .bool t258] 30 (0, 0)) (by (with_reducible repeat (first | refine blk_drewN ?_ _ | refine blk_drew ?_ | refine blk_alloc ?_ _)); exact BK259.out) hb)
            have n4_ := Aside0.mk (blk_below (g := gb264) (o := .cells #[.int .i64 a1_0, .int .i64 a1_1, .int .i64 a1_2, .int .i64 a1_3, .int .i64 a1_4, .int .i64 0] 26 (0, 0)) (by (with_reducible repeat (first | refine blk_drewN ?_ _ | refine blk_drew ?_ | refine blk_alloc ?_ _)); exact BK264.out) hb)
            have n5_ := Aside0.mk (below_step (by repeat (first | (with_reducible first | exact HB.out | apply below_alloc | apply pw_below_drewN | apply below_drew1 | refine below_set ?_ GE252.out | refine below_set ?_ GE253.out | refine below_set ?_ GE259.out | refine below_set ?_ GE264.out) | exact HB.out)) hb)
            clear HO_260000
            clear BK252
            clear BK253
            clear BK259
            clear BK264
            clear HB
            have HO_260000 := n0_
            have BK252 := n1_
            have BK253 := n2_
            have BK259 := n3_
            have BK264 := n4_
            have HB := n5_
            clear n0_ n1_ n2_ n3_ n4_ n5_
            (try clear hb)
            (try clear hb2)
            (try clear hk)
            (try clear hi)
            refine hK.out _ _ ⟨(blk_cell BK259.out 0).trans rfl, (blk_cell BK259.out 1).trans rfl, (blk_cell BK264.out 0).trans rfl, (blk_cell BK264.out 1).trans rfl, (blk_cell BK264.out 2).trans rfl, (blk_cell BK264.out 3).trans rfl, (blk_cell BK264.out 4).trans rfl, (blk_cell BK264.out 5).trans rfl⟩ (fun hHeld => ?_)
            clear hK K
            refine norm_ (a' := ?_) ?_ ?_
            rotate_left
            · show Act.put _ (some 37) _ = _
              simp only [Act.put, List.setIfInBounds_toArray, List.set_cons_zero, List.set_cons_succ, i64_w, i32_w]
              rfl
            refine pure_ (i := 4) (N := some 33) (v := ?_) (a' := ?_) #[true, true, true, true, true, false, false, false, false] rfl rfl (any_of HT_.out (by kernel_rfl)) (fun _ _ _ h => h) (Or.inl ⟨by rfl, ?_⟩) ?_ ?_
            rotate_left
            · intro w'
              go_simp
              with_reducible rfl
            rotate_left
            · simp only [Act.put, List.setIfInBounds_toArray, List.set_cons_zero, List.set_cons_succ, i64_w, i32_w]
              rfl
            refine pure_ (i := 5) (N := some 38) (v := ?_) (a' := ?_) #[true, true, true, true, true, true, false, false, false] rfl rfl (any_of HT_.out (by kernel_rfl)) (fun _ _ _ h => h) (Or.inl ⟨by rfl, ?_⟩) ?_ ?_
            rotate_left
            · intro w'
              go_simp
              with_reducible rfl
            rotate_left
            · simp only [Act.put, List.setIfInBounds_toArray, List.set_cons_zero, List.set_cons_succ, i64_w, i32_w]
              rfl
            refine pure_ (i := 6) (N := some 39) (v := ?_) (a' := ?_) #[true, true, true, true, true, true, true, false, false] rfl rfl (any_of HT_.out (by kernel_rfl)) (fun _ _ _ h => h) (Or.inl ⟨by rfl, ?_⟩) ?_ ?_
            rotate_left
            · intro w'
              go_simp
              with_reducible rfl
            rotate_left
            · simp only [Act.put, List.setIfInBounds_toArray, List.set_cons_zero, List.set_cons_succ, i64_w, i32_w]
              rfl
            refine pure_ (i := 7) (N := some 9) (v := ?_) (a' := ?_) #[true, true, true, true, true, true, true, true, false] rfl rfl (any_of HT_.out (by kernel_rfl)) (fun _ _ _ h => h) (Or.inl ⟨by rfl, ?_⟩) ?_ ?_
            rotate_left
            · intro w'
              go_simp
              with_reducible rfl
            rotate_left
            · simp only [Act.put, List.setIfInBounds_toArray, List.set_cons_zero, List.set_cons_succ, i64_w, i32_w]
              rfl
            refine pure_ (i := 8) (N := some 10) (v := ?_) (a' := ?_) #[true, true, true, true, true, true, true, true, true] rfl rfl (any_of HT_.out (by kernel_rfl)) (fun _ _ _ h => h) (Or.inl ⟨by rfl, ?_⟩) ?_ ?_
            rotate_left
            · intro w'
              go_simp
              with_reducible rfl
            rotate_left
            · simp only [Act.put, List.setIfInBounds_toArray, List.set_cons_zero, List.set_cons_succ, i64_w, i32_w]
              rfl
            refine done_ (done_of HT_.out (by kernel_rfl)) ?_
            try go_wp2
            go_ret
            exact ⟨by first | rfl | (simp [errW_none, errW_some] <;> rfl) | (simp [*, errW_none, errW_some] <;> rfl), by repeat (first | (with_reducible first | exact HB.out | apply below_alloc | apply pw_below_drewN | apply below_drew1 | refine below_set ?_ GE252.out | refine below_set ?_ GE253.out | refine below_set ?_ GE259.out | refine below_set ?_ GE264.out) | exact HB.out)⟩
  · replace c4 := Bool.eq_false_iff.mpr c4
    subst c4
    have H1 : (some true) = some r := by rw [if_neg (show ¬ (false = true) by decide)] at H; exact H
    clear H
    have H := H1
    clear H1
    obtain rfl := Option.some.inj H
    go_enter Tryz.func6, Tryz.ntmps6
    go_wp2_with (first | ((with_reducible refine gate_dst (N := 2) rfl ?_); refine box_event ?hg (N := 2) ?hd (cs := #[.slice A0_0 l0_0.length c0_0, .bool a0_1]) (t := 24) ?hr ?_; (case hd => rfl); (case hg => rfl); (case hr => first | (go_simp; done) | (go_simp; rfl)); intro gb252 hg w103 hbox hb; have n0_ := Aside0.mk (below_step (by repeat (first | (with_reducible first | exact HB.out | apply below_alloc | apply pw_below_drewN | apply below_drew1) | exact HB.out)) hb); have n1_ := Aside0.mk (hbox); have n2_ := Aside0.mk ((by rw [hg]; exact (below_size (by repeat (first | (with_reducible first | exact HB.out | apply below_alloc | apply pw_below_drewN | apply below_drew1) | exact HB.out))) : w.heap.size ≤ gb252)); have n3_ := Aside0.mk ((by rw [hg]; exact (below_size (by repeat (first | (with_reducible first | exact HB.out | apply below_alloc | apply pw_below_drewN | apply below_drew1) | exact HB.out))) : w.heap.size ≤ gb252)); clear HB; have HB := n0_; have BK252 := n1_; have GW252 := n2_; have GE252 := n3_; clear n0_ n1_ n2_ n3_; clear hb hbox hg) | ((with_reducible refine gate_dst (N := 3) rfl ?_); refine box_event ?hg (N := 3) ?hd (cs := #[.int .i64 a1_0, .int .i64 a1_1, .int .i64 a1_2, .int .i64 a1_3, .int .i64 a1_4, .int .i64 a1_5]) (t := 26) ?hr ?_; (case hd => rfl); (case hg => rfl); (case hr => first | (go_simp; done) | (go_simp; rfl)); intro gb253 hg w104 hbox hb; have n0_ := Aside0.mk (blk_below (g := gb252) (o := .cells #[.slice A0_0 l0_0.length c0_0, .bool a0_1] 24 (0, 0)) (by (with_reducible repeat (first | refine blk_drewN ?_ _ | refine blk_drew ?_ | refine blk_alloc ?_ _)); exact BK252.out) hb); have n1_ := Aside0.mk (below_step (by repeat (first | (with_reducible first | exact HB.out | apply below_alloc | apply pw_below_drewN | apply below_drew1 | refine below_set ?_ GE252.out) | exact HB.out)) hb); have n2_ := Aside0.mk (hbox); have n3_ := Aside0.mk ((by rw [hg]; exact (below_size (by repeat (first | (with_reducible first | exact HB.out | apply below_alloc | apply pw_below_drewN | apply below_drew1 | refine below_set ?_ GE252.out) | exact HB.out))) : w.heap.size ≤ gb253)); have n4_ := Aside0.mk ((by rw [hg]; exact (below_size (by repeat (first | (with_reducible first | exact HB.out | apply below_alloc | apply pw_below_drewN | apply below_drew1 | refine below_set ?_ GE252.out) | exact HB.out))) : w.heap.size ≤ gb253)); have n5_ := Aside0.mk ((by rw [hg]; exact Nat.ne_of_lt (blk_lt (g := gb252) (o := .cells #[.slice A0_0 l0_0.length c0_0, .bool a0_1] 24 (0, 0)) (by (with_reducible repeat (first | refine blk_drewN ?_ _ | refine blk_drew ?_ | refine blk_alloc ?_ _)); exact BK252.out)) : gb252 ≠ gb253)); have n6_ := Aside0.mk ((by rw [hg]; exact Nat.ne_of_gt (blk_lt (g := gb252) (o := .cells #[.slice A0_0 l0_0.length c0_0, .bool a0_1] 24 (0, 0)) (by (with_reducible repeat (first | refine blk_drewN ?_ _ | refine blk_drew ?_ | refine blk_alloc ?_ _)); exact BK252.out)) : gb253 ≠ gb252)); clear BK252; clear HB; have BK252 := n0_; have HB := n1_; have BK253 := n2_; have GW253 := n3_; have GE253 := n4_; have NB252_253 := n5_; have NB253_252 := n6_; clear n0_ n1_ n2_ n3_ n4_ n5_ n6_; clear hb hbox hg; have hnb105 := NB252_253.out; have hnc105 := NB253_252.out; have hcz106_0 : w104.cell? ⟨gb252, 0, none⟩ = some (.slice A0_0 l0_0.length c0_0) := (blk_cell BK252.out 0).trans rfl; have hcz106_1 : w104.cell? ⟨gb252, 1, none⟩ = some (.bool a0_1) := (blk_cell BK252.out 1).trans rfl; have hfz106_0 := blk_frozen BK252.out 0; have hfz106_1 := blk_frozen BK252.out 1) | ((with_reducible refine gate_callee (f := 11) rfl ?_); refine goesL_ (some 12) rfl rfl Tryz.func11 (by kernel_rfl) rfl #[.agg #[.slice A0_0 l0_0.length c0_0, .bool a0_1]] rfl (by (try simp only [List.map_toArray, List.map_cons, List.map_nil]); first | done | rfl | (simp only [List.length_drop, List.length_take]; rfl)) ?_; (with_reducible refine (laws_zzFits1.calls k _ _ l0_0 a0_1 false _ ?side1 ?side2 A3.out).mono ?_); (case side1 => repeat (first | exact (Kd.C_below HR0_0.out HB.out) | (with_reducible refine Kd.C_alloc ?_ _) | (with_reducible refine Kd.C_drewN ?_ _) | (with_reducible refine Kd.C_drew ?_))); (case side2 => exact HC0_0.out); rintro e w107 ⟨rfl, hb⟩; refine ⟨_, rfl, ?_⟩; have n0_ := Aside0.mk (blk_below (g := gb252) (o := .cells #[.slice A0_0 l0_0.length c0_0, .bool a0_1] 24 (0, 0)) (by (with_reducible repeat (first | refine blk_drewN ?_ _ | refine blk_drew ?_ | refine blk_alloc ?_ _)); exact BK252.out) hb); have n1_ := Aside0.mk (blk_below (g := gb253) (o := .cells #[.int .i64 a1_0, .int .i64 a1_1, .int .i64 a1_2, .int .i64 a1_3, .int .i64 a1_4, .int .i64 a1_5] 26 (0, 0)) (by (with_reducible repeat (first | refine blk_drewN ?_ _ | refine blk_drew ?_ | refine blk_alloc ?_ _)); exact BK253.out) hb); have n2_ := Aside0.mk (below_step (by repeat (first | (with_reducible first | exact HB.out | apply below_alloc | apply pw_below_drewN | apply below_drew1 | refine below_set ?_ GE252.out | refine below_set ?_ GE253.out) | exact HB.out)) hb); clear BK252; clear BK253; clear HB; have BK252 := n0_; have BK253 := n1_; have HB := n2_; clear n0_ n1_ n2_; (try clear hb); (try clear hb2); (try clear hk); (try clear hi)))
    go_ret
    exact ⟨by first | rfl | (simp [errW_none, errW_some] <;> rfl) | (simp [*, errW_none, errW_some] <;> rfl), by repeat (first | (with_reducible first | exact HB.out | apply below_alloc | apply pw_below_drewN | apply below_drew1 | refine below_set ?_ GE252.out | refine below_set ?_ GE253.out) | exact HB.out)⟩
end Go.Proofs.YtemgofomhjabpaaGreatDoor.Core
namespace Go.Proofs.YtemgofomhjabpaaGreatDoor.Core
open Go.RowKit Go.Proofs.YtemgofomhjabpaaGreatDoorW.PrintWords Go.Proofs.YtemgofomhjabpaaGreatDoorW.PrintLast Go.Proofs.YtemgofomhjabpaaGreatDoorW.PrintMore
attribute [local go_sem] max2_int min2_int max_two min_two max_three min_three max_four min_four   -- for this text's walks alone
set_option linter.unusedVariables false
set_option linter.unusedSimpArgs false
end Go.Proofs.YtemgofomhjabpaaGreatDoor.Core
namespace Go.Proofs.YtemgofomhjabpaaGreatDoor.Core
open Go.RowKit Go.Proofs.YtemgofomhjabpaaGreatDoorW.PrintWords Go.Proofs.YtemgofomhjabpaaGreatDoorW.PrintLast Go.Proofs.YtemgofomhjabpaaGreatDoorW.PrintMore
attribute [local go_sem] max2_int min2_int max_two min_two max_three min_three max_four min_four   -- for this text's walks alone
set_option linter.unusedVariables false
set_option linter.unusedSimpArgs false
def gotime_dateToAbsDays.f (a0 : Int) (a1 : Int) (a2 : Int) : Option (Int) := if ((a1) % 4294967296) < 3 then (some (IntKind.u64.wrap ((IntKind.u64.wrap (Int.tdiv (IntKind.u64.wrap (146097 * (IntKind.u64.wrap (Int.tdiv (IntKind.u64.wrap ((IntKind.u64.wrap ((IntKind.u64.wrap (a0)) - 1)) + 292277022400)) 100)))) 4)) + (IntKind.u64.wrap (wrap64 ((wrap64 ((((((1461 * ((Int.tmod (IntKind.u64.wrap ((IntKind.u64.wrap ((IntKind.u64.wrap (a0)) - 1)) + 292277022400)) 100) % 4294967296)) % 4294967296) / 4) + (((((979 * ((((a1) % 4294967296) + (12 * 1)) % 4294967296)) % 4294967296) - 2919) % 4294967296) / 32)) % 4294967296) + a2)) - 1)))))) else (some (IntKind.u64.wrap ((IntKind.u64.wrap (Int.tdiv (IntKind.u64.wrap (146097 * (IntKind.u64.wrap (Int.tdiv (IntKind.u64.wrap ((IntKind.u64.wrap ((IntKind.u64.wrap (a0)) - 0)) + 292277022400)) 100)))) 4)) + (IntKind.u64.wrap (wrap64 ((wrap64 ((((((1461 * ((Int.tmod (IntKind.u64.wrap ((IntKind.u64.wrap ((IntKind.u64.wrap (a0)) - 0)) + 292277022400)) 100) % 4294967296)) % 4294967296) / 4) + (((((979 * (((a1) % 4294967296) + (12 * 0))) % 4294967296) - 2919) % 4294967296) / 32)) % 4294967296) + a2)) - 1))))))
set_option maxHeartbeats 8000000 in
set_option maxRecDepth 100000 in
theorem gotime_dateToAbsDays.calls (a0 : Int) (a1 : Int) (a2 : Int) (r : Int) (w : World) (h : gotime_dateToAbsDays.f a0 a1 a2 = some r) :
    Calls Tryz.prog 52 #[.int .i64 a0, .int .i64 a1, .int .i64 a2] w fun e w' => e = .returned (.int .u64 r) ∧ Drawn0 w w' := by
  have H : (if ((a1) % 4294967296) < 3 then (some (IntKind.u64.wrap ((IntKind.u64.wrap (Int.tdiv (IntKind.u64.wrap (146097 * (IntKind.u64.wrap (Int.tdiv (IntKind.u64.wrap ((IntKind.u64.wrap ((IntKind.u64.wrap (a0)) - 1)) + 292277022400)) 100)))) 4)) + (IntKind.u64.wrap (wrap64 ((wrap64 ((((((1461 * ((Int.tmod (IntKind.u64.wrap ((IntKind.u64.wrap ((IntKind.u64.wrap (a0)) - 1)) + 292277022400)) 100) % 4294967296)) % 4294967296) / 4) + (((((979 * ((((a1) % 4294967296) + (12 * 1)) % 4294967296)) % 4294967296) - 2919) % 4294967296) / 32)) % 4294967296) + a2)) - 1)))))) else (some (IntKind.u64.wrap ((IntKind.u64.wrap (Int.tdiv (IntKind.u64.wrap (146097 * (IntKind.u64.wrap (Int.tdiv (IntKind.u64.wrap ((IntKind.u64.wrap ((IntKind.u64.wrap (a0)) - 0)) + 292277022400)) 100)))) 4)) + (IntKind.u64.wrap (wrap64 ((wrap64 ((((((1461 * ((Int.tmod (IntKind.u64.wrap ((IntKind.u64.wrap ((IntKind.u64.wrap (a0)) - 0)) + 292277022400)) 100) % 4294967296)) % 4294967296) / 4) + (((((979 * (((a1) % 4294967296) + (12 * 0))) % 4294967296) - 2919) % 4294967296) / 32)) % 4294967296) + a2)) - 1))))))) = some r := h
  clear h
  by_cases c4 : ((a1) % 4294967296) < 3
  · rw [if_pos c4] at H
    have c4b0 : decide (((a1) % 4294967296) < 3) = true := decide_eq_true c4
    clear c4
    obtain rfl := Option.some.inj H
    go_enter Tryz.func52, Tryz.ntmps52
    go_wp2
    go_ret
    exact ⟨by first | rfl | (simp; done) | (simp [*]; done), by repeat (first | exact Drawn0.refl _ | apply Drawn0.step)⟩
  · rw [if_neg c4] at H
    have c4b0 : decide (((a1) % 4294967296) < 3) = false := decide_eq_false c4
    clear c4
    obtain rfl := Option.some.inj H
    go_enter Tryz.func52, Tryz.ntmps52
    go_wp2
    go_ret
    exact ⟨by first | rfl | (simp; done) | (simp [*]; done), by repeat (first | exact Drawn0.refl _ | apply Drawn0.step)⟩
end Go.Proofs.YtemgofomhjabpaaGreatDoor.Core
namespace Go.Proofs.YtemgofomhjabpaaGreatDoor.Core
open Go.RowKit Go.Proofs.YtemgofomhjabpaaGreatDoorW.PrintWords Go.Proofs.YtemgofomhjabpaaGreatDoorW.PrintLast Go.Proofs.YtemgofomhjabpaaGreatDoorW.PrintMore
attribute [local go_sem] max2_int min2_int max_two min_two max_three min_three max_four min_four   -- for this text's walks alone
set_option linter.unusedVariables false
set_option linter.unusedSimpArgs false
def bits_Mul32.f (a0 : Int) (a1 : Int) : Option (Int × Int) := some (((IntKind.u64.wrap ((IntKind.u64.wrap (a0)) * (IntKind.u64.wrap (a1)))) / 4294967296) % 4294967296, (IntKind.u64.wrap ((IntKind.u64.wrap (a0)) * (IntKind.u64.wrap (a1)))) % 4294967296)
set_option maxHeartbeats 8000000 in
set_option maxRecDepth 100000 in
theorem bits_Mul32.calls (a0 : Int) (a1 : Int) (r1 : Int) (r2 : Int) (w : World) (h : bits_Mul32.f a0 a1 = some (r1, r2)) :
    Calls Tryz.prog 145 #[.int .u32 a0, .int .u32 a1] w fun e w' => e = .returned (.tuple #[.int .u32 r1, .int .u32 r2]) ∧ Drawn0 w w' := by
  have H : (some (((IntKind.u64.wrap ((IntKind.u64.wrap (a0)) * (IntKind.u64.wrap (a1)))) / 4294967296) % 4294967296, (IntKind.u64.wrap ((IntKind.u64.wrap (a0)) * (IntKind.u64.wrap (a1)))) % 4294967296)) = some (r1, r2) := h
  clear h
  simp only [Option.some.injEq, Prod.mk.injEq] at H
  obtain ⟨rfl, rfl⟩ := H
  go_enter Tryz.func145, Tryz.ntmps145
  go_wp2
  go_ret2
  exact ⟨by first | rfl | (simp; done) | (simp [*]; done), by repeat (first | exact Drawn0.refl _ | apply Drawn0.step)⟩
end Go.Proofs.YtemgofomhjabpaaGreatDoor.Core
namespace Go.Proofs.YtemgofomhjabpaaGreatDoor.Core
open Go.RowKit Go.Proofs.YtemgofomhjabpaaGreatDoorW.PrintWords Go.Proofs.YtemgofomhjabpaaGreatDoorW.PrintLast Go.Proofs.YtemgofomhjabpaaGreatDoorW.PrintMore
attribute [local go_sem] max2_int min2_int max_two min_two max_three min_three max_four min_four   -- for this text's walks alone
set_option linter.unusedVariables false
set_option linter.unusedSimpArgs false
def gotime_absDays_split.f (a0 : Int) : Option (Int × Int × Int) := (bits_Mul32.f 2939745 (Go.bits .or .u32 ((Int.tmod (IntKind.u64.wrap ((IntKind.u64.wrap (4 * a0)) + 3)) 146097) % 4294967296) 3)).bind fun bt564 => (some (IntKind.u64.wrap (Int.tdiv (IntKind.u64.wrap ((IntKind.u64.wrap (4 * a0)) + 3)) 146097), wrap64 (bt564.1), ((Int.tdiv bt564.2 2939745) % 4294967296) / 4))
set_option maxHeartbeats 8000000 in
set_option maxRecDepth 100000 in
theorem gotime_absDays_split.calls (a0 : Int) (r1 : Int) (r2 : Int) (r3 : Int) (w : World) (h : gotime_absDays_split.f a0 = some (r1, r2, r3)) :
    Calls Tryz.prog 126 #[.int .u64 a0] w fun e w' => e = .returned (.tuple #[.int .u64 r1, .int .i64 r2, .int .i64 r3]) ∧ Drawn0 w w' := by
  have H : ((bits_Mul32.f 2939745 (Go.bits .or .u32 ((Int.tmod (IntKind.u64.wrap ((IntKind.u64.wrap (4 * a0)) + 3)) 146097) % 4294967296) 3)).bind fun bt564 => (some (IntKind.u64.wrap (Int.tdiv (IntKind.u64.wrap ((IntKind.u64.wrap (4 * a0)) + 3)) 146097), wrap64 (bt564.1), ((Int.tdiv bt564.2 2939745) % 4294967296) / 4))) = some (r1, r2, r3) := h
  clear h
  replace H := Option.bind_eq_some_iff.mp H
  obtain ⟨⟨t564, t565⟩, A20, H⟩ := H
  replace H : (some (IntKind.u64.wrap (Int.tdiv (IntKind.u64.wrap ((IntKind.u64.wrap (4 * a0)) + 3)) 146097), wrap64 (t564), ((Int.tdiv t565 2939745) % 4294967296) / 4)) = some (r1, r2, r3) := H
  have A2 := Aside0.mk A20
  clear A20
  simp only [Option.some.injEq, Prod.mk.injEq] at H
  obtain ⟨rfl, rfl, rfl⟩ := H
  go_enter Tryz.func126, Tryz.ntmps126
  go_wp2_with (first | ((with_reducible refine gate_callee (f := 145) rfl ?_); refine goesL_ (some 20) rfl rfl Tryz.func145 (by kernel_rfl) rfl #[.int .u32 2939745, .int .u32 (Go.bits .or .u32 ((Int.tmod (IntKind.u64.wrap ((IntKind.u64.wrap (4 * a0)) + 3)) 146097) % 4294967296) 3)] rfl (by (try simp only [List.map_toArray, List.map_cons, List.map_nil]); first | done | rfl | (simp only [List.length_drop, List.length_take]; rfl)) ?_; (with_reducible refine (bits_Mul32.calls 2939745 (Go.bits .or .u32 ((Int.tmod (IntKind.u64.wrap ((IntKind.u64.wrap (4 * a0)) + 3)) 146097) % 4294967296) 3) t564 t565 _ A2.out).mono ?_); rintro e w' ⟨rfl, ⟨nd, rfl⟩⟩; refine ⟨_, rfl, ?_⟩))
  go_ret3
  exact ⟨by first | rfl | (simp; done) | (simp [*]; done), by repeat (first | exact Drawn0.refl _ | apply Drawn0.step)⟩
end Go.Proofs.YtemgofomhjabpaaGreatDoor.Core
namespace Go.Proofs.YtemgofomhjabpaaGreatDoor.Core
open Go.RowKit Go.Proofs.YtemgofomhjabpaaGreatDoorW.PrintWords Go.Proofs.YtemgofomhjabpaaGreatDoorW.PrintLast Go.Proofs.YtemgofomhjabpaaGreatDoorW.PrintMore
attribute [local go_sem] max2_int min2_int max_two min_two max_three min_three max_four min_four   -- for this text's walks alone
set_option linter.unusedVariables false
set_option linter.unusedSimpArgs false
def gotime_absYday_split.f (a0 : Int) : Option (Int × Int) := some (((((2141 * ((a0) % 4294967296)) % 4294967296) + 197913) % 4294967296) / 65536, 1 + ((Int.tdiv (Go.bits .and .u32 ((((2141 * ((a0) % 4294967296)) % 4294967296) + 197913) % 4294967296) 65535) 2141) % 4294967296))
set_option maxHeartbeats 8000000 in
set_option maxRecDepth 100000 in
theorem gotime_absYday_split.calls (a0 : Int) (r1 : Int) (r2 : Int) (w : World) (h : gotime_absYday_split.f a0 = some (r1, r2)) :
    Calls Tryz.prog 127 #[.int .i64 a0] w fun e w' => e = .returned (.tuple #[.int .i64 r1, .int .i64 r2]) ∧ Drawn0 w w' := by
  have H : (some (((((2141 * ((a0) % 4294967296)) % 4294967296) + 197913) % 4294967296) / 65536, 1 + ((Int.tdiv (Go.bits .and .u32 ((((2141 * ((a0) % 4294967296)) % 4294967296) + 197913) % 4294967296) 65535) 2141) % 4294967296))) = some (r1, r2) := h
  clear h
  simp only [Option.some.injEq, Prod.mk.injEq] at H
  obtain ⟨rfl, rfl⟩ := H
  go_enter Tryz.func127, Tryz.ntmps127
  go_wp2
  go_ret2
  exact ⟨by first | rfl | (simp; done) | (simp [*]; done), by repeat (first | exact Drawn0.refl _ | apply Drawn0.step)⟩
end Go.Proofs.YtemgofomhjabpaaGreatDoor.Core
namespace Go.Proofs.YtemgofomhjabpaaGreatDoor.Core
open Go.RowKit Go.Proofs.YtemgofomhjabpaaGreatDoorW.PrintWords Go.Proofs.YtemgofomhjabpaaGreatDoorW.PrintLast Go.Proofs.YtemgofomhjabpaaGreatDoorW.PrintMore
attribute [local go_sem] max2_int min2_int max_two min_two max_three min_three max_four min_four   -- for this text's walks alone
set_option linter.unusedVariables false
set_option linter.unusedSimpArgs false
def gotime_absYday_janFeb.f (a0 : Int) : Option (Int) := if a0 ≥ 306 then (some 1) else (some 0)
set_option maxHeartbeats 8000000 in
set_option maxRecDepth 100000 in
theorem gotime_absYday_janFeb.calls (a0 : Int) (r : Int) (w : World) (h : gotime_absYday_janFeb.f a0 = some r) :
    Calls Tryz.prog 137 #[.int .i64 a0] w fun e w' => e = .returned (.int .i64 r) ∧ Drawn0 w w' := by
  have H : (if a0 ≥ 306 then (some 1) else (some 0)) = some r := h
  clear h
  by_cases c2 : a0 ≥ 306
  · rw [if_pos c2] at H
    have c2b0 : decide (306 ≤ a0) = true := decide_eq_true c2
    clear c2
    obtain rfl := Option.some.inj H
    go_enter Tryz.func137, Tryz.ntmps137
    go_wp2
    go_ret
    exact ⟨by first | rfl | (simp; done) | (simp [*]; done), by repeat (first | exact Drawn0.refl _ | apply Drawn0.step)⟩
  · rw [if_neg c2] at H
    have c2b0 : decide (306 ≤ a0) = false := decide_eq_false c2
    clear c2
    obtain rfl := Option.some.inj H
    go_enter Tryz.func137, Tryz.ntmps137
    go_wp2
    go_ret
    exact ⟨by first | rfl | (simp; done) | (simp [*]; done), by repeat (first | exact Drawn0.refl _ | apply Drawn0.step)⟩
end Go.Proofs.YtemgofomhjabpaaGreatDoor.Core
namespace Go.Proofs.YtemgofomhjabpaaGreatDoor.Core
open Go.RowKit Go.Proofs.YtemgofomhjabpaaGreatDoorW.PrintWords Go.Proofs.YtemgofomhjabpaaGreatDoorW.PrintLast Go.Proofs.YtemgofomhjabpaaGreatDoorW.PrintMore
attribute [local go_sem] max2_int min2_int max_two min_two max_three min_three max_four min_four   -- for this text's walks alone
set_option linter.unusedVariables false
set_option linter.unusedSimpArgs false
def gotime_absCentury_year.f (a0 : Int) (a1 : Int) (a2 : Int) : Option (Int) := some (wrap64 ((wrap64 ((wrap64 (IntKind.u64.wrap ((IntKind.u64.wrap (a0 * 100)) - 292277022400))) + a1)) + a2))
set_option maxHeartbeats 8000000 in
set_option maxRecDepth 100000 in
theorem gotime_absCentury_year.calls (a0 : Int) (a1 : Int) (a2 : Int) (r : Int) (w : World) (h : gotime_absCentury_year.f a0 a1 a2 = some r) :
    Calls Tryz.prog 138 #[.int .u64 a0, .int .i64 a1, .int .i64 a2] w fun e w' => e = .returned (.int .i64 r) ∧ Drawn0 w w' := by
  have H : (some (wrap64 ((wrap64 ((wrap64 (IntKind.u64.wrap ((IntKind.u64.wrap (a0 * 100)) - 292277022400))) + a1)) + a2))) = some r := h
  clear h
  obtain rfl := Option.some.inj H
  go_enter Tryz.func138, Tryz.ntmps138
  go_wp2
  go_ret
  exact ⟨by first | rfl | (simp; done) | (simp [*]; done), by repeat (first | exact Drawn0.refl _ | apply Drawn0.step)⟩
end Go.Proofs.YtemgofomhjabpaaGreatDoor.Core
namespace Go.Proofs.YtemgofomhjabpaaGreatDoor.Core
open Go.RowKit Go.Proofs.YtemgofomhjabpaaGreatDoorW.PrintWords Go.Proofs.YtemgofomhjabpaaGreatDoorW.PrintLast Go.Proofs.YtemgofomhjabpaaGreatDoorW.PrintMore
attribute [local go_sem] max2_int min2_int max_two min_two max_three min_three max_four min_four   -- for this text's walks alone
set_option linter.unusedVariables false
set_option linter.unusedSimpArgs false
def gotime_absMonth_month.f (a0 : Int) (a1 : Int) : Option (Int) := some (wrap64 (a0 - (wrap64 (a1 * 12))))
set_option maxHeartbeats 8000000 in
set_option maxRecDepth 100000 in
theorem gotime_absMonth_month.calls (a0 : Int) (a1 : Int) (r : Int) (w : World) (h : gotime_absMonth_month.f a0 a1 = some r) :
    Calls Tryz.prog 139 #[.int .i64 a0, .int .i64 a1] w fun e w' => e = .returned (.int .i64 r) ∧ Drawn0 w w' := by
  have H : (some (wrap64 (a0 - (wrap64 (a1 * 12))))) = some r := h
  clear h
  obtain rfl := Option.some.inj H
  go_enter Tryz.func139, Tryz.ntmps139
  go_wp2
  go_ret
  exact ⟨by first | rfl | (simp; done) | (simp [*]; done), by repeat (first | exact Drawn0.refl _ | apply Drawn0.step)⟩
end Go.Proofs.YtemgofomhjabpaaGreatDoor.Core
namespace Go.Proofs.YtemgofomhjabpaaGreatDoor.Core
open Go.RowKit Go.Proofs.YtemgofomhjabpaaGreatDoorW.PrintWords Go.Proofs.YtemgofomhjabpaaGreatDoorW.PrintLast Go.Proofs.YtemgofomhjabpaaGreatDoorW.PrintMore
attribute [local go_sem] max2_int min2_int max_two min_two max_three min_three max_four min_four   -- for this text's walks alone
set_option linter.unusedVariables false
set_option linter.unusedSimpArgs false
end Go.Proofs.YtemgofomhjabpaaGreatDoor.Core
namespace Go.Proofs.YtemgofomhjabpaaGreatDoor.Core
open Go.RowKit Go.Proofs.YtemgofomhjabpaaGreatDoorW.PrintWords Go.Proofs.YtemgofomhjabpaaGreatDoorW.PrintLast Go.Proofs.YtemgofomhjabpaaGreatDoorW.PrintMore
attribute [local go_sem] max2_int min2_int max_two min_two max_three min_three max_four min_four   -- for this text's walks alone
set_option linter.unusedVariables false
set_option linter.unusedSimpArgs false
def gotime_absDays_weekday.f (a0 : Int) : Option (Int) := some (wrap64 (Int.tmod (IntKind.u64.wrap (a0 + 3)) 7))
set_option maxHeartbeats 8000000 in
set_option maxRecDepth 100000 in
theorem gotime_absDays_weekday.calls (a0 : Int) (r : Int) (w : World) (h : gotime_absDays_weekday.f a0 = some r) :
    Calls Tryz.prog 146 #[.int .u64 a0] w fun e w' => e = .returned (.int .i64 r) ∧ Drawn0 w w' := by
  have H : (some (wrap64 (Int.tmod (IntKind.u64.wrap (a0 + 3)) 7))) = some r := h
  clear h
  obtain rfl := Option.some.inj H
  go_enter Tryz.func146, Tryz.ntmps146
  go_wp2
  go_ret
  exact ⟨by first | rfl | (simp; done) | (simp [*]; done), by repeat (first | exact Drawn0.refl _ | apply Drawn0.step)⟩
end Go.Proofs.YtemgofomhjabpaaGreatDoor.Core
namespace Go.Proofs.YtemgofomhjabpaaGreatDoor.Core
open Go.RowKit Go.Proofs.YtemgofomhjabpaaGreatDoorW.PrintWords Go.Proofs.YtemgofomhjabpaaGreatDoorW.PrintLast Go.Proofs.YtemgofomhjabpaaGreatDoorW.PrintMore
attribute [local go_sem] max2_int min2_int max_two min_two max_three min_three max_four min_four   -- for this text's walks alone
set_option linter.unusedVariables false
set_option linter.unusedSimpArgs false
def gotime_absSeconds_days.f (a0 : Int) : Option (Int) := some (IntKind.u64.wrap (Int.tdiv a0 86400))
set_option maxHeartbeats 8000000 in
set_option maxRecDepth 100000 in
theorem gotime_absSeconds_days.calls (a0 : Int) (r : Int) (w : World) (h : gotime_absSeconds_days.f a0 = some r) :
    Calls Tryz.prog 125 #[.int .u64 a0] w fun e w' => e = .returned (.int .u64 r) ∧ Drawn0 w w' := by
  have H : (some (IntKind.u64.wrap (Int.tdiv a0 86400))) = some r := h
  clear h
  obtain rfl := Option.some.inj H
  go_enter Tryz.func125, Tryz.ntmps125
  go_wp2
  go_ret
  exact ⟨by first | rfl | (simp; done) | (simp [*]; done), by repeat (first | exact Drawn0.refl _ | apply Drawn0.step)⟩
end Go.Proofs.YtemgofomhjabpaaGreatDoor.Core
namespace Go.Proofs.YtemgofomhjabpaaGreatDoor.Core
open Go.RowKit Go.Proofs.YtemgofomhjabpaaGreatDoorW.PrintWords
def B (l : List UInt8) : ByteArray := ⟨l.toArray⟩
theorem B_size (l : List UInt8) : (B l).size = l.length := by simp [B, ByteArray.size]
theorem B_data (l : List UInt8) : (B l).data.toList = l := by simp [B]
theorem B_list (l : List UInt8) : (B l).toList = l := by rw [Lib.toList_data, B_data]
theorem B_of (s : ByteArray) : B s.data.toList = s := by cases s; simp [B]
theorem B_inj {l m : List UInt8} (h : B l = B m) : l = m := by
  have := congrArg (fun s : ByteArray => s.data.toList) h
  simpa [B_data] using this
theorem B_ext_iff {s t : ByteArray} (h : s.data.toList = t.data.toList) : s = t := by rw [← B_of s, ← B_of t, h]
theorem B_app (l m : List UInt8) : B l ++ B m = B (l ++ m) := by
  apply B_ext_iff
  rw [B_data, ByteArray.data_append, Array.toList_append, B_data, B_data]
theorem B_cut (l : List UInt8) (i j : Nat) : (B l).extract i j = B ((l.drop i).take (j - i)) := by
  apply B_ext_iff
  rw [Lib.extract_data, B_data, B_data]
theorem B_bytesOf (l : List UInt8) : bytesOf (B l) = l.map fun b => (b.toNat : Int) := by rw [bytesOf, B_data]
theorem strOfNums_B (l : List UInt8) : strOfNums (l.map fun b => (b.toNat : Int)) = B l := by
  unfold strOfNums B
  congr 2
  rw [List.map_map]
  conv => rhs; rw [← List.map_id l]
  apply List.map_congr_left
  intro b _
  simp
theorem bt_B (l : List UInt8) (i : Int) (h0 : 0 ≤ i) (h : i < (l.length : Int)) : bt (B l) i = ((l[i.toNat]'(by omega)).toNat : Int) := by
  unfold bt
  rw [dif_pos (by rw [B_size]; omega)]
  have : (B l)[i.toNat]'(by rw [B_size]; omega) = l[i.toNat]'(by omega) := by simp [B, ByteArray.getElem_eq_getElem_data]
  rw [this]
theorem bt_B_at (l : List UInt8) (i : Nat) (h : i < l.length) : bt (B l) (i : Int) = ((l[i]).toNat : Int) := by
  rw [bt_B l _ (by omega) (by omega)]; simp
theorem wrap64_id {i : Int} (h0 : -9223372036854775808 ≤ i) (h1 : i ≤ 9223372036854775807) : wrap64 i = i := by unfold wrap64; omega
theorem wrap64_nat (i : Nat) (h : i < 9223372036854775807) : wrap64 ((i : Int) + 1) = ((i + 1 : Nat) : Int) := by rw [wrap64_id (by omega) (by omega)]; rfl
theorem rd_at (l : List Int) (i : Nat) : rd l (i : Int) = l.getD i 0 := by simp [rd]
theorem Ev.round {α : Type} {g f : Nat → Option α} {r : α} (k : Ev f r) (h : ∀ k, g (k + 1) = f k) : Ev g r := Ev.step h k
theorem Ev.eq {α : Type} {g : Nat → Option α} {r : α} (r' : α) (h : Ev g r') (e : r' = r) : Ev g r := e ▸ h
theorem Ev.done {α : Type} {g : Nat → Option α} {r : α} (h : ∀ k, g (k + 1) = some r) : Ev g r := Ev.step h (Ev.now r)
theorem Ev.const {α : Type} {o : Option α} {r : α} (h : o = some r) : Ev (fun _ => o) r := ⟨0, fun _ _ => h⟩
def decN (n : Nat) : List UInt8 := if _h : n < 10 then [UInt8.ofNat (48 + n)] else decN (n / 10) ++ [UInt8.ofNat (48 + n % 10)]
termination_by n
theorem decN_lt (n : Nat) (h : n < 10) : decN n = [UInt8.ofNat (48 + n)] := by rw [decN, dif_pos h]
theorem decN_ge (n : Nat) (h : ¬ n < 10) : decN n = decN (n / 10) ++ [UInt8.ofNat (48 + n % 10)] := by rw [decN, dif_neg h]
theorem decN_digit (n : Nat) : ∀ b ∈ decN n, 48 ≤ b.toNat ∧ b.toNat ≤ 57 := by
  induction n using decN.induct with
  | case1 n h =>
    rw [decN_lt n h]
    intro b hb
    rw [List.mem_singleton] at hb
    subst hb
    have : (48 + n) % 256 = 48 + n := by omega
    simp [this]
    omega
  | case2 n h ih =>
    rw [decN_ge n h]
    intro b hb
    rcases List.mem_append.1 hb with hb | hb
    · exact ih b hb
    · rw [List.mem_singleton] at hb
      subst hb
      have : (48 + n % 10) % 256 = 48 + n % 10 := by omega
      simp [this]
      omega
theorem decN_ne (n : Nat) : decN n ≠ [] := by
  by_cases h : n < 10
  · rw [decN_lt n h]; simp
  · rw [decN_ge n h]; simp
theorem decN_length (n : Nat) (m : Nat) (h : n < 10 ^ (m + 1)) : (decN n).length ≤ m + 1 := by
  induction m generalizing n with
  | zero => rw [decN_lt n (by simpa using h)]; simp
  | succ m ih =>
    by_cases h10 : n < 10
    · rw [decN_lt n h10]; simp
    · rw [decN_ge n h10]
      have := ih (n / 10) (by rw [Nat.div_lt_iff_lt_mul (by omega)]; rw [Nat.pow_succ] at h; exact h)
      simp
      omega
end Go.Proofs.YtemgofomhjabpaaGreatDoor.Core
