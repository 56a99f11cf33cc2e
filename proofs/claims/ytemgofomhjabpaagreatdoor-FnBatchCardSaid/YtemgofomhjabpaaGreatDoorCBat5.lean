/- Contracts and plain lemmas of this seat (part 5), merged by wip/merge2.py; what is proved stands in the claim's last text. -/
import Derived.Test.YtemgofomhjabpaaGreatDoorCBat1
import Derived.Test.YtemgofomhjabpaaGreatDoorCBat2
import Derived.Test.YtemgofomhjabpaaGreatDoorCBat3
import Derived.Test.YtemgofomhjabpaaGreatDoorCBat4
namespace Go.Proofs.YtemgofomhjabpaaGreatDoor.Core
open Go.RowKit Go.Proofs.YtemgofomhjabpaaGreatDoorW.PrintWords Go.Proofs.YtemgofomhjabpaaGreatDoorW.PrintLast Go.Proofs.YtemgofomhjabpaaGreatDoorW.PrintMore
attribute [local go_sem] max2_int min2_int max_two min_two max_three min_three max_four min_four   -- for this text's walks alone
set_option linter.unusedVariables false
set_option linter.unusedSimpArgs false
mutual
noncomputable def laws_FnBatch.l0 : Nat → List (S30) → List (S24) → Int → Int → Int → Int → Int → Int → Int → Int → Option (Bool)
 | 0, _, _, _, _, _, _, _, _, _, _ => none
 | k + 1, x5, x19, x20, x21, x425000, x425001, x425002, x425003, x425004, x425005 => if x21 < x20 then (if 0 ≤ x21 then (if x21 < (x19.length : Int) then ((laws_expr.f k ((rd_T24 x19 x21).f0) ((rd_T24 x19 x21).f1)).bind fun bt431 => (if x5.length < 4398046511104 then (laws_FnBatch.l0 k (x5 ++ [(⟨bt431.1, bt431.2⟩ : S30)]) x19 x20 (wrap64 (x21 + 1)) x425000 x425001 x425002 x425003 x425004 x425005) else (none))) else (none)) else (none)) else ((laws_moment.f x425000 x425001 x425002 x425003 x425004 x425005).bind fun bt438 => ((spec_MomentGood.f bt438.1 bt438.2.1 bt438.2.2.1 bt438.2.2.2.1 bt438.2.2.2.2.1 bt438.2.2.2.2.2).bind fun t444 => (if t444 = true then (laws_FnBatch.j1 k x5 (decide ((x5.length : Int) > 8)) x425000 x425001 x425002 x425003 x425004 x425005) else (laws_FnBatch.j1 k x5 true x425000 x425001 x425002 x425003 x425004 x425005))))
noncomputable def laws_FnBatch.j1 : Nat → List (S30) → Bool → Int → Int → Int → Int → Int → Int → Option (Bool)
 | 0, _, _, _, _, _, _, _, _ => none
 | k + 1, x5, x39, x425000, x425001, x425002, x425003, x425004, x425005 => if x39 = true then (some true) else (laws_FnBatch.l1 k x5 (([] : List ByteArray)) x5 (x5.length : Int) 0 x425000 x425001 x425002 x425003 x425004 x425005)
noncomputable def laws_FnBatch.l1 : Nat → List (S30) → List ByteArray → List (S30) → Int → Int → Int → Int → Int → Int → Int → Int → Option (Bool)
 | 0, _, _, _, _, _, _, _, _, _, _, _ => none
 | k + 1, x5, x8, x41, x42, x43, x425000, x425001, x425002, x425003, x425004, x425005 => if x43 < x42 then (if 0 ≤ x43 then (if x43 < (x41.length : Int) then ((spec_ExprGood.f k ((rd_T30 x41 x43).f0) ((rd_T30 x41 x43).f1)).bind fun t450 => (if t450 = true then ((spec_Text.f k ((rd_T30 x41 x43).f0) ((rd_T30 x41 x43).f1)).bind fun t451 => (if x8.length < 8796093022208 then (laws_FnBatch.l1 k x5 (x8 ++ [t451]) x41 x42 (wrap64 (x43 + 1)) x425000 x425001 x425002 x425003 x425004 x425005) else (none))) else (some true))) else (none)) else (none)) else (if x8.length < 8796093022208 then ((impl_Batch.f (x8 ++ [(⟨#[42, 32, 42, 32, 42, 32, 42, 32, 42]⟩ : ByteArray)]) x425000 x425001 x425002 x425003 x425004 x425005).bind fun bt458 => (if (bt458.1.length : Int) = (wrap64 ((x5.length : Int) + 1)) then (if (bt458.2.length : Int) = (bt458.1.length : Int) then (if 0 ≤ (x5.length : Int) then (if (x5.length : Int) < (bt458.1.length : Int) then (laws_FnBatch.j3 k x5 bt458.1 bt458.2 ((rdOf false bt458.1 (x5.length : Int)) != (x425005 == 0)) x425000 x425001 x425002 x425003 x425004 x425005) else (none)) else (none)) else (laws_FnBatch.j3 k x5 bt458.1 bt458.2 true x425000 x425001 x425002 x425003 x425004 x425005)) else (laws_FnBatch.j3 k x5 bt458.1 bt458.2 true x425000 x425001 x425002 x425003 x425004 x425005))) else (none))
noncomputable def laws_FnBatch.j3 : Nat → List (S30) → List Bool → List Bool → Bool → Int → Int → Int → Int → Int → Int → Option (Bool)
 | 0, _, _, _, _, _, _, _, _, _, _ => none
 | k + 1, x5, x11, x12, x87, x425000, x425001, x425002, x425003, x425004, x425005 => if x87 = true then (some false) else (laws_FnBatch.l2 k x11 x12 x5 (x5.length : Int) 0 x425000 x425001 x425002 x425003 x425004 x425005)
noncomputable def laws_FnBatch.l2 : Nat → List Bool → List Bool → List (S30) → Int → Int → Int → Int → Int → Int → Int → Int → Option (Bool)
 | 0, _, _, _, _, _, _, _, _, _, _, _ => none
 | k + 1, x11, x12, x88, x89, x90, x425000, x425001, x425002, x425003, x425004, x425005 => if x90 < x89 then (if 0 ≤ x90 then (if x90 < (x88.length : Int) then (if x90 < (x12.length : Int) then (if rdOf false x12 x90 = true then (if x90 < (x11.length : Int) then ((laws_moment.f x425000 x425001 x425002 x425003 x425004 x425005).bind fun bt469 => ((spec_Fits.f k ((rd_T30 x88 x90).f0) ((rd_T30 x88 x90).f1) bt469.1 bt469.2.1 bt469.2.2.1 bt469.2.2.2.1 bt469.2.2.2.2.1 bt469.2.2.2.2.2).bind fun t475 => (if ((rdOf false x11 x90) != t475) = true then (some false) else (laws_FnBatch.l2 k x11 x12 x88 x89 (wrap64 (x90 + 1)) x425000 x425001 x425002 x425003 x425004 x425005)))) else (none)) else (some false)) else (none)) else (none)) else (none)) else (some true)
end
noncomputable def laws_FnBatch.f (k : Nat) (l0 : List (S24)) (a1_0 : Int) (a1_1 : Int) (a1_2 : Int) (a1_3 : Int) (a1_4 : Int) (a1_5 : Int) : Option (Bool) := (laws_zzFits3.f k l0).bind fun t425 => (if t425 = true then (laws_FnBatch.l0 k (([] : List (S30))) l0 (l0.length : Int) 0 a1_0 a1_1 a1_2 a1_3 a1_4 a1_5) else (some true))
def laws_FnBatch.T19 : Bool × List (List Nat × List Nat) := (true, [([], []), ([], []), ([0, 1], [0, 1]), ([], []), ([2, 3, 2], [2, 3]), ([4], [4]), ([5], [5]), ([5], [5]), ([6, 4, 0, 1, 2, 3, 4, 5, 6], [6]), ([7, 8, 0, 1, 2, 3, 4, 5, 6, 7, 8], [7])])
def laws_FnBatch.B19 : List Nat := [0, 0, 3, 0, 15, 31, 63, 63, 127, 511]
theorem laws_FnBatch.tab19 : rtab .any (opsOf Tryz.f10 19) = laws_FnBatch.T19 := by kernel_rfl
theorem laws_FnBatch.bits19 : waitsOk laws_FnBatch.T19.2 laws_FnBatch.B19 = true := by kernel_rfl
def laws_FnBatch.T20 : Bool × List (List Nat × List Nat) := (true, [([], []), ([0], [0]), ([], []), ([2], [2]), ([3], [3]), ([1, 4], [1, 4]), ([5], [5]), ([6], [6]), ([7, 6], [6, 7]), ([6], [6]), ([9, 6], [6, 9]), ([8, 10, 6], [6, 8, 10]), ([6, 11], [6, 11]), ([12, 6], [12]), ([13], [13]), ([13], [13]), ([15, 13], [13, 15]), ([14, 16, 13], [13, 14, 16]), ([17, 13], [13, 17]), ([13], [13]), ([19, 13], [13, 19]), ([20, 13], [13, 20]), ([18, 21, 13], [13, 18, 21]), ([13, 22], [13, 22])])
def laws_FnBatch.B20 : List Nat := [0, 1, 0, 4, 12, 31, 63, 127, 255, 127, 639, 2047, 4095, 8191, 16383, 16383, 49151, 131071, 262143, 16383, 540671, 1589247, 4194303, 8388607]
theorem laws_FnBatch.tab20 : rtab .any (opsOf Tryz.f10 20) = laws_FnBatch.T20 := by kernel_rfl
theorem laws_FnBatch.bits20 : waitsOk laws_FnBatch.T20.2 laws_FnBatch.B20 = true := by kernel_rfl
def laws_FnBatch.T25 : Bool × List (List Nat × List Nat) := (true, [([], []), ([], []), ([0, 1], [0, 1]), ([2], [2]), ([3], [3]), ([4], [4]), ([5], [5]), ([5], [5]), ([6, 7, 5], [5, 6, 7]), ([8, 5], [5, 8]), ([5], [5]), ([5], [5]), ([11, 5, 5], [5, 11]), ([10, 12, 12, 5], [5, 10, 12]), ([9, 13, 5], [5, 9, 13]), ([5, 14], [5, 14])])
def laws_FnBatch.B25 : List Nat := [0, 0, 3, 7, 15, 31, 63, 63, 255, 511, 63, 63, 2111, 7231, 16383, 32767]
theorem laws_FnBatch.tab25 : rtab .any (opsOf Tryz.f10 25) = laws_FnBatch.T25 := by kernel_rfl
theorem laws_FnBatch.bits25 : waitsOk laws_FnBatch.T25.2 laws_FnBatch.B25 = true := by kernel_rfl
theorem laws_FnBatch.j3t {k : Nat} {E : List (S30)} {d f : List Bool} {y mo dd h mi s : Int} {r : Bool} (H : laws_FnBatch.j3 k E d f true y mo dd h mi s = some r) : some false = some r := by
 cases k with
 | zero => simp [laws_FnBatch.j3] at H
 | succ k => simpa [laws_FnBatch.j3] using H
set_option maxHeartbeats 8000000 in
set_option maxRecDepth 100000 in
theorem laws_FnBatch.calls (k : Nat) (A0 : Option Addr) (c0 : Nat) (l0 : List (S24)) (a1_0 : Int) (a1_1 : Int) (a1_2 : Int) (a1_3 : Int) (a1_4 : Int) (a1_5 : Int) (r : Bool) (w : World) (hr0 : Kd.C k24 w A0 l0.length l0) (hc0 : l0.length ≤ c0) (hr_ : Aside0 (r = true)) (h : laws_FnBatch.f k l0 a1_0 a1_1 a1_2 a1_3 a1_4 a1_5 = some r) :
  Calls Tryz.prog 10 #[.slice A0 l0.length c0, .agg #[.int .i64 a1_0, .int .i64 a1_1, .int .i64 a1_2, .int .i64 a1_3, .int .i64 a1_4, .int .i64 a1_5]] w fun e w' => e = .returned (.bool r) ∧ Below w.heap.size w w' := by
 have hu26 := Tryz.underlying26
 have hu24 := Tryz.underlying24
 have hu30 := Tryz.underlying30
 have HR0 := Aside0.mk hr0
 have HC0 := Aside0.mk hc0
 clear hr0 hc0
 have HB := Aside0.mk (Below.refl w.heap.size w)
 have H : ((laws_zzFits3.f k l0).bind fun t425 => (if t425 = true then (laws_FnBatch.l0 k (([] : List (S30))) l0 (l0.length : Int) 0 a1_0 a1_1 a1_2 a1_3 a1_4 a1_5) else (some true))) = some r := h
 clear h
 replace H := Option.bind_eq_some_iff.mp H
 obtain ⟨t425, A30, H⟩ := H
 replace H : (if t425 = true then (laws_FnBatch.l0 k (([] : List (S30))) l0 (l0.length : Int) 0 a1_0 a1_1 a1_2 a1_3 a1_4 a1_5) else (some true)) = some r := H
 have A3 := Aside0.mk A30
 clear A30
 by_cases c4 : t425 = true
 ·subst c4
  have H1 : (laws_FnBatch.l0 k (([] : List (S30))) l0 (l0.length : Int) 0 a1_0 a1_1 a1_2 a1_3 a1_4 a1_5) = some r := by rw [if_pos rfl] at H; exact H
  clear H
  have H := H1
  clear H1
  obtain ⟨y426, hy426⟩ : ∃ y_ : List (S30), y_ = (([] : List (S30))) := ⟨_, rfl⟩
  replace H : (laws_FnBatch.l0 k y426 l0 (l0.length : Int) 0 a1_0 a1_1 a1_2 a1_3 a1_4 a1_5) = some r := by first | (rw [hy426]; with_reducible exact H) | (have H2_ := (Option.bind_some _ _).symm.trans H; rw [hy426]; with_reducible exact H2_) | (have H2_ := (Option.bind_some _ _).symm.trans H; with_reducible exact H2_) | with_reducible exact H | (rw [hy426]; exact H) | exact H
  have Ny426 := Aside0.mk hy426
  clear hy426
  have H' := Aside0.mk H
  clear H
  go_enter Tryz.func10, Tryz.ntmps10
  go_wp2_with (first | ((with_reducible refine gate_dst (N := 3) rfl ?_); (try (refine gate_guard (by rfl) ?_; dsimp only)); refine box_event ?hg (N := 3) ?hd (cs := #[.int .i64 a1_0, .int .i64 a1_1, .int .i64 a1_2, .int .i64 a1_3, .int .i64 a1_4, .int .i64 a1_5]) (t := 26) ?hr ?_; (case hd => rfl); (case hg => rfl); (case hr => first | (go_simp; done) | (go_simp; rfl)); intro gb424 hg w5 hbox hb; have n0_ := Aside0.mk (below_step (by repeat (first | (with_reducible first | exact HB.out | apply below_alloc | apply pw_below_drewN | apply below_drew1) | exact HB.out)) hb); have n1_ := Aside0.mk (hbox); have n2_ := Aside0.mk ((by rw [hg]; exact (below_size (by repeat (first | (with_reducible first | exact HB.out | apply below_alloc | apply pw_below_drewN | apply below_drew1) | exact HB.out))) : w.heap.size ≤ gb424)); have n3_ := Aside0.mk ((by rw [hg]; exact (below_size (by repeat (first | (with_reducible first | exact HB.out | apply below_alloc | apply pw_below_drewN | apply below_drew1) | exact HB.out))) : w.heap.size ≤ gb424)); clear HB; have HB := n0_; have BK424 := n1_; have GW424 := n2_; have GE424 := n3_; clear n0_ n1_ n2_ n3_; clear hb hbox hg) | ((with_reducible refine gate_callee (f := 27) rfl ?_); refine goesL_ (some 16) rfl rfl Tryz.func27 (by kernel_rfl) rfl #[.slice A0 l0.length c0] rfl (by (try simp only [List.map_toArray, List.map_cons, List.map_nil]); first | done | rfl | (simp only [List.length_drop, List.length_take]; rfl)) ?_; (with_reducible refine (laws_zzFits3.calls k _ _ l0 true _ ?side1 ?side2 A3.out).mono ?_); (case side1 => repeat (first | exact (Kd.C_below HR0.out HB.out) | (with_reducible refine Kd.C_alloc ?_ _) | (with_reducible refine Kd.C_drewN ?_ _) | (with_reducible refine Kd.C_drew ?_))); (case side2 => exact HC0.out); rintro e w6 ⟨rfl, hb⟩; refine ⟨_, rfl, ?_⟩; have n0_ := Aside0.mk (blk_below (g := gb424) (o := .cells #[.int .i64 a1_0, .int .i64 a1_1, .int .i64 a1_2, .int .i64 a1_3, .int .i64 a1_4, .int .i64 a1_5] 26 (0, 0)) (by (with_reducible repeat (first | refine blk_drewN ?_ _ | refine blk_drew ?_ | refine blk_alloc ?_ _)); exact BK424.out) hb); have n1_ := Aside0.mk (below_step (by repeat (first | (with_reducible first | exact HB.out | apply below_alloc | apply pw_below_drewN | apply below_drew1 | refine below_set ?_ GE424.out) | exact HB.out)) hb); clear BK424; clear HB; have BK424 := n0_; have HB := n1_; clear n0_ n1_; (try clear hb); (try clear hb2); (try clear hk); (try clear hi)) | ((with_reducible refine gate_dst (N := 18) rfl ?_); (try (refine gate_guard (by rfl) ?_; dsimp only)); refine Kd.R_lit k30 _ 30 ?hg (N := 18) ?hd (xs := ([] : List (S30))) (inner := []) (ok := fun _ => True) (okp := fun _ => True) ?hr ?hp (fun _ hk => hk) trivial (Below.refl _ _) (Nat.le_refl _) (by simp) ?_; (case hd => rfl); (case hg => rfl); (case hr => first | (go_simp; done) | (go_simp; rfl)); (case hp => exact (Reps.none _ _)); intro v427 w7 ho8 hb hg_ hnew_; clear hg_ hnew_; (first | rw [← Ny426.out] at ho8 | (simp only [Int.reduceToNat] at ho8; rw [← Ny426.out] at ho8)); have n0_ := Aside0.mk (Kd.R_lower ho8 (below_size (by repeat (first | (with_reducible first | exact HB.out | apply below_alloc | apply pw_below_drewN | apply below_drew1 | refine below_set ?_ GE424.out) | exact HB.out)))); have n1_ := Aside0.mk (blk_below (g := gb424) (o := .cells #[.int .i64 a1_0, .int .i64 a1_1, .int .i64 a1_2, .int .i64 a1_3, .int .i64 a1_4, .int .i64 a1_5] 26 (0, 0)) (by (with_reducible repeat (first | refine blk_drewN ?_ _ | refine blk_drew ?_ | refine blk_alloc ?_ _)); exact BK424.out) hb); have n2_ := Aside0.mk (below_step (by repeat (first | (with_reducible first | exact HB.out | apply below_alloc | apply pw_below_drewN | apply below_drew1 | refine below_set ?_ GE424.out) | exact HB.out)) hb); clear BK424; clear HB; have HO428 := n0_; have BK424 := n1_; have HB := n2_; clear n0_ n1_ n2_; clear hb ho8))
  go_loopg [5, 21] k (fun kq v5 v21 w' => ∃ (x5_1 : List (S30)) (x21_1 : Int), v21 = .int .i64 x21_1 ∧ Aside0 (laws_FnBatch.l0 kq x5_1 l0 (l0.length : Int) x21_1 a1_0 a1_1 a1_2 a1_3 a1_4 a1_5 = some r) ∧ Aside0 (kq ≤ k) ∧ Aside0 (Kd.R k30 30 w' w.heap.size (fun _ => True) v5 x5_1) ∧ Aside0 (w'.heap[gb424]? = some (.cells #[.int .i64 a1_0, .int .i64 a1_1, .int .i64 a1_2, .int .i64 a1_3, .int .i64 a1_4, .int .i64 a1_5] 26 (0, 0))) ∧ Aside0 (Below w.heap.size w w'))
  case atStart => exact ⟨(y426), (0), (by first | rfl | (simp; done) | (simp [*]; done)), H', ⟨Nat.le_refl _⟩, ⟨by (with_reducible repeat (first | apply Kd.R_alloc | apply Kd.R_drewN | apply Kd.R_drew)); exact HO428.out⟩, ⟨by (with_reducible repeat (first | refine blk_drewN ?_ _ | refine blk_drew ?_ | refine blk_alloc ?_ _)); exact BK424.out⟩, ⟨by repeat (first | (with_reducible first | exact HB.out | apply below_alloc | apply pw_below_drewN | apply below_drew1 | refine below_set ?_ GE424.out) | exact HB.out)⟩⟩
  case round =>
   clear H'
   obtain ⟨x5_1, x21_1, rfl, HA, HK1, HO_5, BK424, HB⟩ := hrel
   cases gk with
   | zero => exact absurd HA.out (by simp [laws_FnBatch.l0])
   | succ k1 =>
    have H := HA.out
    clear HA
    simp only [laws_FnBatch.l0] at H
    by_cases c9 : x21_1 < (l0.length : Int)
    ·rw [if_pos c9] at H
     have c9b0 : decide (x21_1 < (l0.length : Int)) = true := decide_eq_true c9
     clear c9
     by_cases c10 : 0 ≤ x21_1
     ·rw [if_pos c10] at H
      have c10b0 : decide (0 ≤ x21_1) = true := decide_eq_true c10
      clear c10
      by_cases c11 : x21_1 < (l0.length : Int)
      ·rw [if_pos c11] at H
       have c11b0 : decide (x21_1 < (l0.length : Int)) = true := decide_eq_true c11
       clear c11
       replace H := Option.bind_eq_some_iff.mp H
       obtain ⟨⟨t431, t434⟩, A120, H⟩ := H
       replace H : (if x5_1.length < 4398046511104 then (laws_FnBatch.l0 k1 (x5_1 ++ [(⟨t431, t434⟩ : S30)]) l0 (l0.length : Int) (wrap64 (x21_1 + 1)) a1_0 a1_1 a1_2 a1_3 a1_4 a1_5) else (none)) = some r := H
       have A12 := Aside0.mk A120
       clear A120
       by_cases c13 : x5_1.length < 4398046511104
       ·rw [if_pos c13] at H
        have LMc13 := Aside0.mk c13
        clear c13
        obtain ⟨y435, hy435⟩ : ∃ y_ : List (S30), y_ = (x5_1 ++ [(⟨t431, t434⟩ : S30)]) := ⟨_, rfl⟩
        replace H : (laws_FnBatch.l0 k1 y435 l0 (l0.length : Int) (wrap64 (x21_1 + 1)) a1_0 a1_1 a1_2 a1_3 a1_4 a1_5) = some r := by first | (rw [hy435]; with_reducible exact H) | (have H2_ := (Option.bind_some _ _).symm.trans H; rw [hy435]; with_reducible exact H2_) | (have H2_ := (Option.bind_some _ _).symm.trans H; with_reducible exact H2_) | with_reducible exact H | (rw [hy435]; exact H) | exact H
        have Ny435 := Aside0.mk hy435
        clear hy435
        have H' := Aside0.mk H
        clear H
        have p429 : 0 ≤ (x21_1 : Int) := of_decide_eq_true (by first | (with_reducible assumption) | assumption)
        have q429 : x21_1 < (l0.length : Int) := of_decide_eq_true (by first | (with_reducible assumption) | assumption)
        obtain ⟨ad429, A429_0, c429_0, e429, hx429_0, hx429_1, hl429_0, hi429_0⟩ := at_T24 HR0.out x21_1 p429 q429
        cases e429
        replace hx429_0 := (HB.out.cell (World.block_lt_of_cell? w _ hx429_0)).trans hx429_0
        replace hx429_1 := (HB.out.cell (World.block_lt_of_cell? w _ hx429_1)).trans hx429_1
        have HR429_0 := Aside0.mk hi429_0
        have HC429_0 := Aside0.mk hl429_0
        clear hi429_0 hl429_0
        replace p429 := eq_true p429
        replace q429 := eq_true q429
        go_wp2_with (first | ((with_reducible refine gate_dst (N := 7) rfl ?_); (try (refine gate_guard (by rfl) ?_; dsimp only)); refine box_event ?hg (N := 7) ?hd (cs := #[.slice none 0 0, .bool false]) (t := 24) ?hr ?_; (case hd => rfl); (case hg => rfl); (case hr => first | (go_simp; done) | (go_simp; rfl)); intro gb430 hg w14 hbox hb; have n0_ := Aside0.mk (Kd.R_below (by (with_reducible repeat (first | apply Kd.R_alloc | apply Kd.R_drewN | apply Kd.R_drew)); exact HO_5.out) hb); have n1_ := Aside0.mk (blk_below (g := gb424) (o := .cells #[.int .i64 a1_0, .int .i64 a1_1, .int .i64 a1_2, .int .i64 a1_3, .int .i64 a1_4, .int .i64 a1_5] 26 (0, 0)) (by (with_reducible repeat (first | refine blk_drewN ?_ _ | refine blk_drew ?_ | refine blk_alloc ?_ _)); exact BK424.out) hb); have n2_ := Aside0.mk (below_step (by repeat (first | (with_reducible first | exact HB.out | apply below_alloc | apply pw_below_drewN | apply below_drew1 | refine below_set ?_ GE424.out) | exact HB.out)) hb); have n3_ := Aside0.mk (hbox); have n4_ := Aside0.mk ((by rw [hg]; exact (below_size (by repeat (first | (with_reducible first | exact HB.out | apply below_alloc | apply pw_below_drewN | apply below_drew1 | refine below_set ?_ GE424.out) | exact HB.out))) : w.heap.size ≤ gb430)); have n5_ := Aside0.mk ((by rw [hg]; exact (below_size (by repeat (first | (with_reducible first | exact HB.out | apply below_alloc | apply pw_below_drewN | apply below_drew1 | refine below_set ?_ GE424.out) | exact HB.out))) : w.heap.size ≤ gb430)); have n6_ := Aside0.mk ((by rw [hg]; exact Nat.ne_of_lt (blk_lt (g := gb424) (o := .cells #[.int .i64 a1_0, .int .i64 a1_1, .int .i64 a1_2, .int .i64 a1_3, .int .i64 a1_4, .int .i64 a1_5] 26 (0, 0)) (by (with_reducible repeat (first | refine blk_drewN ?_ _ | refine blk_drew ?_ | refine blk_alloc ?_ _)); exact BK424.out)) : gb424 ≠ gb430)); have n7_ := Aside0.mk ((by rw [hg]; exact Nat.ne_of_gt (blk_lt (g := gb424) (o := .cells #[.int .i64 a1_0, .int .i64 a1_1, .int .i64 a1_2, .int .i64 a1_3, .int .i64 a1_4, .int .i64 a1_5] 26 (0, 0)) (by (with_reducible repeat (first | refine blk_drewN ?_ _ | refine blk_drew ?_ | refine blk_alloc ?_ _)); exact BK424.out)) : gb430 ≠ gb424)); clear HO_5; clear BK424; clear HB; have HO_5 := n0_; have BK424 := n1_; have HB := n2_; have BK430 := n3_; have GW430 := n4_; have GE430 := n5_; have NB424_430 := n6_; have NB430_424 := n7_; clear n0_ n1_ n2_ n3_ n4_ n5_ n6_ n7_; clear hb hbox hg; have hnb15 := NB430_424.out; have hnc15 := NB424_430.out; have hcz16_0 : w14.cell? ⟨gb430, 0, none⟩ = some (.slice none 0 0) := (blk_cell BK430.out 0).trans rfl; have hcz16_1 : w14.cell? ⟨gb430, 1, none⟩ = some (.bool false) := (blk_cell BK430.out 1).trans rfl; have hfz16_0 := blk_frozen BK430.out 0; have hfz16_1 := blk_frozen BK430.out 1) | ((with_reducible refine gate_callee (f := 12) rfl ?_); refine goesL_ (some 27) rfl rfl Tryz.func12 (by kernel_rfl) rfl #[.agg #[.slice A429_0 ((rd_T24 l0 x21_1).f0).length c429_0, .bool ((rd_T24 l0 x21_1).f1)]] rfl (by (try simp only [List.map_toArray, List.map_cons, List.map_nil]); first | done | rfl | (simp only [List.length_drop, List.length_take]; rfl)) ?_; (with_reducible refine (laws_expr.calls k1 _ _ ((rd_T24 l0 x21_1).f0) ((rd_T24 l0 x21_1).f1) t431 t434 _ ?side1 ?side2 A12.out).mono ?_); (case side1 => exact Kd.C_below HR429_0.out (by repeat (first | (with_reducible first | exact HB.out | apply below_alloc | apply pw_below_drewN | apply below_drew1 | refine below_set ?_ GE424.out | refine below_set ?_ GE430.out) | exact HB.out))); (case side2 => exact HC429_0.out); rintro e w17 ⟨v432, rfl, ho0, hb⟩; refine ⟨_, rfl, ?_⟩; have n0_ := Aside0.mk (Kd.R_elder' (by (with_reducible repeat (first | apply Kd.R_alloc | apply Kd.R_drewN | apply Kd.R_drew)); exact (Kd.R_mono (Kd.R_far (p := ⟨gb430, 1, none⟩) (Kd.R_far (p := ⟨gb430, 0, none⟩) (Kd.R_types HO_5.out BK430.out (by decide)) (fun _ hk => hk.2) (.slice A429_0 ((rd_T24 l0 x21_1).f0).length c429_0)) (fun _ hk => hk.2) (.bool ((rd_T24 l0 x21_1).f1))) (fun _ h_ => h_.1))) (Kd.S_base ho0) hb); have n1_ := Aside0.mk (Kd.S_lower ho0 (below_size (by repeat (first | (with_reducible first | exact HB.out | apply below_alloc | apply pw_below_drewN | apply below_drew1 | refine below_set ?_ GE424.out | refine below_set ?_ GE430.out) | exact HB.out)))); have n2_ := Aside0.mk (blk_below (g := gb424) (o := .cells #[.int .i64 a1_0, .int .i64 a1_1, .int .i64 a1_2, .int .i64 a1_3, .int .i64 a1_4, .int .i64 a1_5] 26 (0, 0)) (by (with_reducible repeat (first | refine blk_drewN ?_ _ | refine blk_drew ?_ | refine blk_alloc ?_ _)); refine blk_far ?_ NB424_430.out _; (with_reducible repeat (first | refine blk_drewN ?_ _ | refine blk_drew ?_ | refine blk_alloc ?_ _)); refine blk_far ?_ NB424_430.out _; (with_reducible repeat (first | refine blk_drewN ?_ _ | refine blk_drew ?_ | refine blk_alloc ?_ _)); exact BK424.out) hb); have n3_ := Aside0.mk (blk_below (g := gb430) (o := .cells #[.slice A429_0 ((rd_T24 l0 x21_1).f0).length c429_0, .bool ((rd_T24 l0 x21_1).f1)] 24 (0, 0)) (by (with_reducible repeat (first | refine blk_drewN ?_ _ | refine blk_drew ?_ | refine blk_alloc ?_ _)); refine blk_put (cs := #[.slice A429_0 ((rd_T24 l0 x21_1).f0).length c429_0, .bool false]) ?_ 1 _ rfl; (with_reducible repeat (first | refine blk_drewN ?_ _ | refine blk_drew ?_ | refine blk_alloc ?_ _)); refine blk_put (cs := #[.slice none 0 0, .bool false]) ?_ 0 _ rfl; (with_reducible repeat (first | refine blk_drewN ?_ _ | refine blk_drew ?_ | refine blk_alloc ?_ _)); exact BK430.out) hb); have n4_ := Aside0.mk (below_step (by repeat (first | (with_reducible first | exact HB.out | apply below_alloc | apply pw_below_drewN | apply below_drew1 | refine below_set ?_ GE424.out | refine below_set ?_ GE430.out) | exact HB.out)) hb); clear HO_5; clear BK424; clear BK430; clear HB; have HO_5 := n0_; have HO433 := n1_; have BK424 := n2_; have BK430 := n3_; have HB := n4_; clear n0_ n1_ n2_ n3_ n4_; (try clear hb); (try clear hb2); (try clear hk); (try clear hi); (try clear ho0); obtain ⟨Ao19, co19, eo19⟩ := Kd.S_slice HO433.out; subst eo19) | ((with_reducible refine gate_builtin (b := .append) (xs := #[.tmp 25, .tmp 28]) rfl ?_); (try (refine gate_guard (by rfl) ?_; dsimp only)); at_builtin; refine Kd.R_append k30 (w0 := w) w.heap.size rfl (.tmp 25) (.tmp 28) 61 30 (.agg #[(.slice none 0 0), (.bool false)]) 32 rfl Tryz.underlying61 info30 rfl (by decide) (by omega) u5 x5_1 (⟨t431, t434⟩ : S30) [.slice Ao19 t431.length co19, .bool t434] (fun _ => True) (fun k_ => ((fun _ => True)) k_ ∧ some k_ ≠ (u5 : Value).ownBlock) rfl rfl ?aP (fun _ hk => hk) ?aF ?aO ?aB ?aS ?aL ?_; (case aP => exact k30_mkM _ _ _ (⟨t431, t434⟩ : S30) (Kd.R_mono (Kd.R_apart' ((Kd.S_R HO433.out)) (Kd.R_typed HO_5.out) (by decide)) (fun k_ hk => ⟨trivial, hk.2⟩))); (case aB => exact (by repeat (first | (with_reducible first | exact HB.out | apply below_alloc | apply pw_below_drewN | apply below_drew1 | refine below_set ?_ GE424.out | refine below_set ?_ GE430.out) | exact HB.out))); (case aF => exact (fun _ _ => trivial)); (case aO => exact (by (with_reducible repeat (first | apply Kd.R_alloc | apply Kd.R_drewN | apply Kd.R_drew)); exact Kd.R_mono HO_5.out (fun _ hk => trivial))); (case aS => exact (below_size (by repeat (first | (with_reducible first | exact HB.out | apply below_alloc | apply pw_below_drewN | apply below_drew1 | refine below_set ?_ GE424.out | refine below_set ?_ GE430.out) | exact HB.out)))); (case aL => have := LMc13.out; omega); intro v436 w18 ho hb hg hat; rw [← Ny435.out] at ho; have n0_ := Aside0.mk (blk_grown (g := gb424) (o := .cells #[.int .i64 a1_0, .int .i64 a1_1, .int .i64 a1_2, .int .i64 a1_3, .int .i64 a1_4, .int .i64 a1_5] 26 (0, 0)) (by (with_reducible repeat (first | refine blk_drewN ?_ _ | refine blk_drew ?_ | refine blk_alloc ?_ _)); exact BK424.out) hg (Kd.R_ne HO_5.out BK424.out (by decide))); have n1_ := Aside0.mk (blk_grown (g := gb430) (o := .cells #[.slice A429_0 ((rd_T24 l0 x21_1).f0).length c429_0, .bool ((rd_T24 l0 x21_1).f1)] 24 (0, 0)) (by (with_reducible repeat (first | refine blk_drewN ?_ _ | refine blk_drew ?_ | refine blk_alloc ?_ _)); exact BK430.out) hg (Kd.R_ne HO_5.out BK430.out (by decide))); have n2_ := Aside0.mk (hb); have n3_ := Aside0.mk (ho); clear BK424; clear BK430; clear HB; clear HO_5; clear HO433; have BK424 := n0_; have BK430 := n1_; have HB := n2_; have HO437 := n3_; clear n0_ n1_ n2_ n3_; clear ho hb hg hat))
        go_roundg k1
        case measure => have := HK1.out; omega
        case rel => exact ⟨(y435), (wrap64 (x21_1 + 1)), (by first | rfl | (simp; done) | (simp [*]; done)), H', ⟨by have := HK1.out; omega⟩, ⟨by (with_reducible repeat (first | apply Kd.R_alloc | apply Kd.R_drewN | apply Kd.R_drew)); exact HO437.out⟩, ⟨by (with_reducible repeat (first | refine blk_drewN ?_ _ | refine blk_drew ?_ | refine blk_alloc ?_ _)); exact BK424.out⟩, ⟨by repeat (first | (with_reducible first | exact HB.out | apply below_alloc | apply pw_below_drewN | apply below_drew1 | refine below_set ?_ GE424.out | refine below_set ?_ GE430.out) | exact HB.out)⟩⟩
       ·rw [if_neg c13] at H
        exact absurd H (by simp)
      ·rw [if_neg c11] at H
       exact absurd H (by simp)
     ·rw [if_neg c10] at H
      exact absurd H (by simp)
    ·rw [if_neg c9] at H
     have c9b0 : decide (x21_1 < (l0.length : Int)) = false := decide_eq_false c9
     clear c9
     have HC20 := Aside0.mk H
     clear H
     go_upto_region 9 with (fail)
     go_cut [39] (fun v39 wc => ∃ (kq : Nat) (x39_19 : Bool), v39 = .bool x39_19 ∧ Aside0 (laws_FnBatch.j1 kq x5_1 x39_19 a1_0 a1_1 a1_2 a1_3 a1_4 a1_5 = some r) ∧ Aside0 (kq ≤ k1) ∧ Aside0 (Kd.R k30 30 wc w.heap.size (fun _ => True) u5 x5_1) ∧ Aside0 (wc.heap[gb424]? = some (.cells #[.int .i64 a1_0, .int .i64 a1_1, .int .i64 a1_2, .int .i64 a1_3, .int .i64 a1_4, .int .i64 a1_5] 26 (0, 0))) ∧ Aside0 (Below w.heap.size w wc))
     case first =>
      have H := HC20.out
      clear HC20
      replace H := Option.bind_eq_some_iff.mp H
      obtain ⟨⟨t438, t439, t440, t441, t442, t443⟩, A210, H⟩ := H
      replace H : ((spec_MomentGood.f t438 t439 t440 t441 t442 t443).bind fun t444 => (if t444 = true then (laws_FnBatch.j1 k1 x5_1 (decide ((x5_1.length : Int) > 8)) a1_0 a1_1 a1_2 a1_3 a1_4 a1_5) else (laws_FnBatch.j1 k1 x5_1 true a1_0 a1_1 a1_2 a1_3 a1_4 a1_5))) = some r := H
      have A21 := Aside0.mk A210
      clear A210
      replace H := Option.bind_eq_some_iff.mp H
      obtain ⟨t444, A220, H⟩ := H
      replace H : (if t444 = true then (laws_FnBatch.j1 k1 x5_1 (decide ((x5_1.length : Int) > 8)) a1_0 a1_1 a1_2 a1_3 a1_4 a1_5) else (laws_FnBatch.j1 k1 x5_1 true a1_0 a1_1 a1_2 a1_3 a1_4 a1_5)) = some r := H
      have A22 := Aside0.mk A220
      clear A220
      by_cases c23 : t444 = true
      ·subst c23
       have H1 : (laws_FnBatch.j1 k1 x5_1 (decide ((x5_1.length : Int) > 8)) a1_0 a1_1 a1_2 a1_3 a1_4 a1_5) = some r := by rw [if_pos rfl] at H; exact H
       clear H
       have H := H1
       clear H1
       have H' := Aside0.mk H
       clear H
       have hcz24_0 : wr.cell? ⟨gb424, 0, none⟩ = some (.int .i64 a1_0) := (blk_cell BK424.out 0).trans rfl
       have hcz24_1 : wr.cell? ⟨gb424, 1, none⟩ = some (.int .i64 a1_1) := (blk_cell BK424.out 1).trans rfl
       have hcz24_2 : wr.cell? ⟨gb424, 2, none⟩ = some (.int .i64 a1_2) := (blk_cell BK424.out 2).trans rfl
       have hcz24_3 : wr.cell? ⟨gb424, 3, none⟩ = some (.int .i64 a1_3) := (blk_cell BK424.out 3).trans rfl
       have hcz24_4 : wr.cell? ⟨gb424, 4, none⟩ = some (.int .i64 a1_4) := (blk_cell BK424.out 4).trans rfl
       have hcz24_5 : wr.cell? ⟨gb424, 5, none⟩ = some (.int .i64 a1_5) := (blk_cell BK424.out 5).trans rfl
       have hfz24_0 := blk_frozen BK424.out 0
       have hfz24_1 := blk_frozen BK424.out 1
       have hfz24_2 := blk_frozen BK424.out 2
       have hfz24_3 := blk_frozen BK424.out 3
       have hfz24_4 := blk_frozen BK424.out 4
       have hfz24_5 := blk_frozen BK424.out 5
       go_wp2_with (first | ((with_reducible refine gate_callee (f := 19) rfl ?_); refine goesL_ (some 32) rfl rfl Tryz.func19 (by kernel_rfl) rfl #[.agg #[.int .i64 a1_0, .int .i64 a1_1, .int .i64 a1_2, .int .i64 a1_3, .int .i64 a1_4, .int .i64 a1_5]] rfl (by (try simp only [List.map_toArray, List.map_cons, List.map_nil]); first | done | rfl | (simp only [List.length_drop, List.length_take]; rfl)) ?_; (with_reducible refine (laws_moment.calls a1_0 a1_1 a1_2 a1_3 a1_4 a1_5 t438 t439 t440 t441 t442 t443 _ A21.out).mono ?_); rintro e w25 ⟨rfl, hb⟩; refine ⟨_, rfl, ?_⟩; have n0_ := Aside0.mk (Kd.R_below (by (with_reducible repeat (first | apply Kd.R_alloc | apply Kd.R_drewN | apply Kd.R_drew)); exact HO_5.out) hb); have n1_ := Aside0.mk (blk_below (g := gb424) (o := .cells #[.int .i64 a1_0, .int .i64 a1_1, .int .i64 a1_2, .int .i64 a1_3, .int .i64 a1_4, .int .i64 a1_5] 26 (0, 0)) (by (with_reducible repeat (first | refine blk_drewN ?_ _ | refine blk_drew ?_ | refine blk_alloc ?_ _)); exact BK424.out) hb); have n2_ := Aside0.mk (below_step (by repeat (first | (with_reducible first | exact HB.out | apply below_alloc | apply pw_below_drewN | apply below_drew1 | refine below_set ?_ GE424.out) | exact HB.out)) hb); clear HO_5; clear BK424; clear HB; have HO_5 := n0_; have BK424 := n1_; have HB := n2_; clear n0_ n1_ n2_; (try clear hb); (try clear hb2); (try clear hk); (try clear hi)) | ((with_reducible refine gate_callee (f := 22) rfl ?_); refine goesL_ (some 33) rfl rfl Tryz.func22 (by kernel_rfl) rfl #[.agg #[.int .i64 t438, .int .i64 t439, .int .i64 t440, .int .i64 t441, .int .i64 t442, .int .i64 t443]] rfl (by (try simp only [List.map_toArray, List.map_cons, List.map_nil]); first | done | rfl | (simp only [List.length_drop, List.length_take]; rfl)) ?_; (with_reducible refine (spec_MomentGood.calls t438 t439 t440 t441 t442 t443 true _ A22.out).mono ?_); rintro e w26 ⟨rfl, hb⟩; refine ⟨_, rfl, ?_⟩; have n0_ := Aside0.mk (Kd.R_below (by (with_reducible repeat (first | apply Kd.R_alloc | apply Kd.R_drewN | apply Kd.R_drew)); exact HO_5.out) hb); have n1_ := Aside0.mk (blk_below (g := gb424) (o := .cells #[.int .i64 a1_0, .int .i64 a1_1, .int .i64 a1_2, .int .i64 a1_3, .int .i64 a1_4, .int .i64 a1_5] 26 (0, 0)) (by (with_reducible repeat (first | refine blk_drewN ?_ _ | refine blk_drew ?_ | refine blk_alloc ?_ _)); exact BK424.out) hb); have n2_ := Aside0.mk (below_step (by repeat (first | (with_reducible first | exact HB.out | apply below_alloc | apply pw_below_drewN | apply below_drew1 | refine below_set ?_ GE424.out) | exact HB.out)) hb); clear HO_5; clear BK424; clear HB; have HO_5 := n0_; have BK424 := n1_; have HB := n2_; clear n0_ n1_ n2_; (try clear hb); (try clear hb2); (try clear hk); (try clear hi); obtain ⟨Ao27, co27, eo27⟩ := Kd.R_slice HO_5.out; subst eo27))
       go_meet
       case rel => exact ⟨_, (decide ((x5_1.length : Int) > 8)), (by first | rfl | (simp; done) | (simp [*]; done)), H', ⟨by have := HK1.out; first | omega | exact Nat.le_refl _⟩, ⟨by (with_reducible repeat (first | apply Kd.R_alloc | apply Kd.R_drewN | apply Kd.R_drew)); exact HO_5.out⟩, ⟨by (with_reducible repeat (first | refine blk_drewN ?_ _ | refine blk_drew ?_ | refine blk_alloc ?_ _)); exact BK424.out⟩, ⟨by repeat (first | (with_reducible first | exact HB.out | apply below_alloc | apply pw_below_drewN | apply below_drew1 | refine below_set ?_ GE424.out) | exact HB.out)⟩⟩
      ·replace c23 := Bool.eq_false_iff.mpr c23
       subst c23
       have H1 : (laws_FnBatch.j1 k1 x5_1 true a1_0 a1_1 a1_2 a1_3 a1_4 a1_5) = some r := by rw [if_neg (show ¬ (false = true) by decide)] at H; exact H
       clear H
       have H := H1
       clear H1
       have H' := Aside0.mk H
       clear H
       have hcz28_0 : wr.cell? ⟨gb424, 0, none⟩ = some (.int .i64 a1_0) := (blk_cell BK424.out 0).trans rfl
       have hcz28_1 : wr.cell? ⟨gb424, 1, none⟩ = some (.int .i64 a1_1) := (blk_cell BK424.out 1).trans rfl
       have hcz28_2 : wr.cell? ⟨gb424, 2, none⟩ = some (.int .i64 a1_2) := (blk_cell BK424.out 2).trans rfl
       have hcz28_3 : wr.cell? ⟨gb424, 3, none⟩ = some (.int .i64 a1_3) := (blk_cell BK424.out 3).trans rfl
       have hcz28_4 : wr.cell? ⟨gb424, 4, none⟩ = some (.int .i64 a1_4) := (blk_cell BK424.out 4).trans rfl
       have hcz28_5 : wr.cell? ⟨gb424, 5, none⟩ = some (.int .i64 a1_5) := (blk_cell BK424.out 5).trans rfl
       have hfz28_0 := blk_frozen BK424.out 0
       have hfz28_1 := blk_frozen BK424.out 1
       have hfz28_2 := blk_frozen BK424.out 2
       have hfz28_3 := blk_frozen BK424.out 3
       have hfz28_4 := blk_frozen BK424.out 4
       have hfz28_5 := blk_frozen BK424.out 5
       go_wp2_with (first | ((with_reducible refine gate_callee (f := 19) rfl ?_); refine goesL_ (some 32) rfl rfl Tryz.func19 (by kernel_rfl) rfl #[.agg #[.int .i64 a1_0, .int .i64 a1_1, .int .i64 a1_2, .int .i64 a1_3, .int .i64 a1_4, .int .i64 a1_5]] rfl (by (try simp only [List.map_toArray, List.map_cons, List.map_nil]); first | done | rfl | (simp only [List.length_drop, List.length_take]; rfl)) ?_; (with_reducible refine (laws_moment.calls a1_0 a1_1 a1_2 a1_3 a1_4 a1_5 t438 t439 t440 t441 t442 t443 _ A21.out).mono ?_); rintro e w29 ⟨rfl, hb⟩; refine ⟨_, rfl, ?_⟩; have n0_ := Aside0.mk (Kd.R_below (by (with_reducible repeat (first | apply Kd.R_alloc | apply Kd.R_drewN | apply Kd.R_drew)); exact HO_5.out) hb); have n1_ := Aside0.mk (blk_below (g := gb424) (o := .cells #[.int .i64 a1_0, .int .i64 a1_1, .int .i64 a1_2, .int .i64 a1_3, .int .i64 a1_4, .int .i64 a1_5] 26 (0, 0)) (by (with_reducible repeat (first | refine blk_drewN ?_ _ | refine blk_drew ?_ | refine blk_alloc ?_ _)); exact BK424.out) hb); have n2_ := Aside0.mk (below_step (by repeat (first | (with_reducible first | exact HB.out | apply below_alloc | apply pw_below_drewN | apply below_drew1 | refine below_set ?_ GE424.out) | exact HB.out)) hb); clear HO_5; clear BK424; clear HB; have HO_5 := n0_; have BK424 := n1_; have HB := n2_; clear n0_ n1_ n2_; (try clear hb); (try clear hb2); (try clear hk); (try clear hi)) | ((with_reducible refine gate_callee (f := 22) rfl ?_); refine goesL_ (some 33) rfl rfl Tryz.func22 (by kernel_rfl) rfl #[.agg #[.int .i64 t438, .int .i64 t439, .int .i64 t440, .int .i64 t441, .int .i64 t442, .int .i64 t443]] rfl (by (try simp only [List.map_toArray, List.map_cons, List.map_nil]); first | done | rfl | (simp only [List.length_drop, List.length_take]; rfl)) ?_; (with_reducible refine (spec_MomentGood.calls t438 t439 t440 t441 t442 t443 false _ A22.out).mono ?_); rintro e w30 ⟨rfl, hb⟩; refine ⟨_, rfl, ?_⟩; have n0_ := Aside0.mk (Kd.R_below (by (with_reducible repeat (first | apply Kd.R_alloc | apply Kd.R_drewN | apply Kd.R_drew)); exact HO_5.out) hb); have n1_ := Aside0.mk (blk_below (g := gb424) (o := .cells #[.int .i64 a1_0, .int .i64 a1_1, .int .i64 a1_2, .int .i64 a1_3, .int .i64 a1_4, .int .i64 a1_5] 26 (0, 0)) (by (with_reducible repeat (first | refine blk_drewN ?_ _ | refine blk_drew ?_ | refine blk_alloc ?_ _)); exact BK424.out) hb); have n2_ := Aside0.mk (below_step (by repeat (first | (with_reducible first | exact HB.out | apply below_alloc | apply pw_below_drewN | apply below_drew1 | refine below_set ?_ GE424.out) | exact HB.out)) hb); clear HO_5; clear BK424; clear HB; have HO_5 := n0_; have BK424 := n1_; have HB := n2_; clear n0_ n1_ n2_; (try clear hb); (try clear hb2); (try clear hk); (try clear hi)))
       go_meet
       case rel => exact ⟨_, (true), (by first | rfl | (simp; done) | (simp [*]; done)), H', ⟨by have := HK1.out; first | omega | exact Nat.le_refl _⟩, ⟨by (with_reducible repeat (first | apply Kd.R_alloc | apply Kd.R_drewN | apply Kd.R_drew)); exact HO_5.out⟩, ⟨by (with_reducible repeat (first | refine blk_drewN ?_ _ | refine blk_drew ?_ | refine blk_alloc ?_ _)); exact BK424.out⟩, ⟨by repeat (first | (with_reducible first | exact HB.out | apply below_alloc | apply pw_below_drewN | apply below_drew1 | refine below_set ?_ GE424.out) | exact HB.out)⟩⟩
     case rest =>
      clear HC20
      obtain ⟨kq, x39_19, rfl, HA, HJ19, HO_5, BK424, HB⟩ := hcut
      cases kq with
      | zero => exact absurd HA.out (by simp [laws_FnBatch.j1])
      | succ kj19 =>
       have H := HA.out
       clear HA
       simp only [laws_FnBatch.j1] at H
       by_cases c31 : x39_19 = true
       ·subst c31
        have H1 : (some true) = some r := by rw [if_pos rfl] at H; exact H
        clear H
        have H := H1
        clear H1
        obtain rfl := Option.some.inj H
        go_wp2
        go_ret
        exact ⟨by first | rfl | (simp [errW_none, errW_some] <;> rfl) | (simp [*, errW_none, errW_some] <;> rfl), by repeat (first | (with_reducible first | exact HB.out | apply below_alloc | apply pw_below_drewN | apply below_drew1 | refine below_set ?_ GE424.out) | exact HB.out)⟩
       ·replace c31 := Bool.eq_false_iff.mpr c31
        subst c31
        have H1 : (laws_FnBatch.l1 kj19 x5_1 (([] : List ByteArray)) x5_1 (x5_1.length : Int) 0 a1_0 a1_1 a1_2 a1_3 a1_4 a1_5) = some r := by rw [if_neg (show ¬ (false = true) by decide)] at H; exact H
        clear H
        have H := H1
        clear H1
        obtain ⟨y445, hy445⟩ : ∃ y_ : List ByteArray, y_ = (([] : List ByteArray)) := ⟨_, rfl⟩
        replace H : (laws_FnBatch.l1 kj19 x5_1 y445 x5_1 (x5_1.length : Int) 0 a1_0 a1_1 a1_2 a1_3 a1_4 a1_5) = some r := by first | (rw [hy445]; with_reducible exact H) | (have H2_ := (Option.bind_some _ _).symm.trans H; rw [hy445]; with_reducible exact H2_) | (have H2_ := (Option.bind_some _ _).symm.trans H; with_reducible exact H2_) | with_reducible exact H | (rw [hy445]; exact H) | exact H
        have Ny445 := Aside0.mk hy445
        clear hy445
        have H' := Aside0.mk H
        clear H
        go_wp2_with (first | ((with_reducible refine gate_dst (N := 40) rfl ?_); (try (refine gate_guard (by rfl) ?_; dsimp only)); refine Kd.R_lit Kd.string _ 9 ?hg (N := 40) ?hd (xs := ([] : List ByteArray)) (inner := []) (ok := fun _ => True) (okp := fun _ => True) ?hr ?hp (fun _ hk => hk) trivial (Below.refl _ _) (Nat.le_refl _) (by simp) ?_; (case hd => rfl); (case hg => rfl); (case hr => first | (go_simp; done) | (go_simp; rfl)); (case hp => exact (Reps.none _ _)); intro v446 w32 ho33 hb hg_ hnew_; clear hg_ hnew_; (first | rw [← Ny445.out] at ho33 | (simp only [Int.reduceToNat] at ho33; rw [← Ny445.out] at ho33)); have n0_ := Aside0.mk (Kd.R_below (by (with_reducible repeat (first | apply Kd.R_alloc | apply Kd.R_drewN | apply Kd.R_drew)); exact HO_5.out) hb); have n1_ := Aside0.mk (Kd.R_lower ho33 (below_size (by repeat (first | (with_reducible first | exact HB.out | apply below_alloc | apply pw_below_drewN | apply below_drew1 | refine below_set ?_ GE424.out) | exact HB.out)))); have n2_ := Aside0.mk (blk_below (g := gb424) (o := .cells #[.int .i64 a1_0, .int .i64 a1_1, .int .i64 a1_2, .int .i64 a1_3, .int .i64 a1_4, .int .i64 a1_5] 26 (0, 0)) (by (with_reducible repeat (first | refine blk_drewN ?_ _ | refine blk_drew ?_ | refine blk_alloc ?_ _)); exact BK424.out) hb); have n3_ := Aside0.mk (below_step (by repeat (first | (with_reducible first | exact HB.out | apply below_alloc | apply pw_below_drewN | apply below_drew1 | refine below_set ?_ GE424.out) | exact HB.out)) hb); clear HO_5; clear BK424; clear HB; have HO_5 := n0_; have HO447 := n1_; have BK424 := n2_; have HB := n3_; clear n0_ n1_ n2_ n3_; clear hb ho33; obtain ⟨Ao34, co34, eo34⟩ := Kd.R_slice HO_5.out; subst eo34))
        go_loopg [8, 43] kj19 (fun kq v8 v43 w' => ∃ (x8_3 : List ByteArray) (x43_3 : Int), v43 = .int .i64 x43_3 ∧ Aside0 (laws_FnBatch.l1 kq x5_1 x8_3 x5_1 (x5_1.length : Int) x43_3 a1_0 a1_1 a1_2 a1_3 a1_4 a1_5 = some r) ∧ Aside0 (kq ≤ kj19) ∧ Aside0 (Kd.R k30 30 w' w.heap.size (fun _ => True) (.slice Ao34 x5_1.length co34) x5_1) ∧ Aside0 (Kd.R Kd.string 9 w' w.heap.size (fun _ => True) v8 x8_3) ∧ Aside0 (Kd.R k30 30 w' w.heap.size (fun _ => True) (.slice Ao34 x5_1.length co34) x5_1) ∧ Aside0 (w'.heap[gb424]? = some (.cells #[.int .i64 a1_0, .int .i64 a1_1, .int .i64 a1_2, .int .i64 a1_3, .int .i64 a1_4, .int .i64 a1_5] 26 (0, 0))) ∧ Aside0 (Below w.heap.size w w'))
        case atStart => exact ⟨(y445), (0), (by first | rfl | (simp; done) | (simp [*]; done)), H', ⟨Nat.le_refl _⟩, ⟨by (with_reducible repeat (first | apply Kd.R_alloc | apply Kd.R_drewN | apply Kd.R_drew)); exact HO_5.out⟩, ⟨by (with_reducible repeat (first | apply Kd.R_alloc | apply Kd.R_drewN | apply Kd.R_drew)); exact HO447.out⟩, ⟨by (with_reducible repeat (first | apply Kd.R_alloc | apply Kd.R_drewN | apply Kd.R_drew)); exact HO_5.out⟩, ⟨by (with_reducible repeat (first | refine blk_drewN ?_ _ | refine blk_drew ?_ | refine blk_alloc ?_ _)); exact BK424.out⟩, ⟨by repeat (first | (with_reducible first | exact HB.out | apply below_alloc | apply pw_below_drewN | apply below_drew1 | refine below_set ?_ GE424.out) | exact HB.out)⟩⟩
        case round =>
         clear H'
         obtain ⟨x8_3, x43_3, rfl, HA, HK3, HO_5, HO_8, HO_41, BK424, HB⟩ := hrel
         cases gk with
         | zero => exact absurd HA.out (by simp [laws_FnBatch.l1])
         | succ k3 =>
          have H := HA.out
          clear HA
          simp only [laws_FnBatch.l1] at H
          by_cases c35 : x43_3 < (x5_1.length : Int)
          ·rw [if_pos c35] at H
           have c35b0 : decide (x43_3 < (x5_1.length : Int)) = true := decide_eq_true c35
           clear c35
           by_cases c36 : 0 ≤ x43_3
           ·rw [if_pos c36] at H
            have c36b0 : decide (0 ≤ x43_3) = true := decide_eq_true c36
            clear c36
            by_cases c37 : x43_3 < (x5_1.length : Int)
            ·rw [if_pos c37] at H
             have c37b0 : decide (x43_3 < (x5_1.length : Int)) = true := decide_eq_true c37
             clear c37
             replace H := Option.bind_eq_some_iff.mp H
             obtain ⟨t450, A380, H⟩ := H
             replace H : (if t450 = true then ((spec_Text.f k3 ((rd_T30 x5_1 x43_3).f0) ((rd_T30 x5_1 x43_3).f1)).bind fun t451 => (if x8_3.length < 8796093022208 then (laws_FnBatch.l1 k3 x5_1 (x8_3 ++ [t451]) x5_1 (x5_1.length : Int) (wrap64 (x43_3 + 1)) a1_0 a1_1 a1_2 a1_3 a1_4 a1_5) else (none))) else (some true)) = some r := H
             have A38 := Aside0.mk A380
             clear A380
             by_cases c39 : t450 = true
             ·subst c39
              have H1 : ((spec_Text.f k3 ((rd_T30 x5_1 x43_3).f0) ((rd_T30 x5_1 x43_3).f1)).bind fun t451 => (if x8_3.length < 8796093022208 then (laws_FnBatch.l1 k3 x5_1 (x8_3 ++ [t451]) x5_1 (x5_1.length : Int) (wrap64 (x43_3 + 1)) a1_0 a1_1 a1_2 a1_3 a1_4 a1_5) else (none))) = some r := by rw [if_pos rfl] at H; exact H
              clear H
              have H := H1
              clear H1
              replace H := Option.bind_eq_some_iff.mp H
              obtain ⟨t451, A400, H⟩ := H
              replace H : (if x8_3.length < 8796093022208 then (laws_FnBatch.l1 k3 x5_1 (x8_3 ++ [t451]) x5_1 (x5_1.length : Int) (wrap64 (x43_3 + 1)) a1_0 a1_1 a1_2 a1_3 a1_4 a1_5) else (none)) = some r := H
              have A40 := Aside0.mk A400
              clear A400
              by_cases c41 : x8_3.length < 8796093022208
              ·rw [if_pos c41] at H
               have LMc41 := Aside0.mk c41
               clear c41
               obtain ⟨y452, hy452⟩ : ∃ y_ : List ByteArray, y_ = (x8_3 ++ [t451]) := ⟨_, rfl⟩
               replace H : (laws_FnBatch.l1 k3 x5_1 y452 x5_1 (x5_1.length : Int) (wrap64 (x43_3 + 1)) a1_0 a1_1 a1_2 a1_3 a1_4 a1_5) = some r := by first | (rw [hy452]; with_reducible exact H) | (have H2_ := (Option.bind_some _ _).symm.trans H; rw [hy452]; with_reducible exact H2_) | (have H2_ := (Option.bind_some _ _).symm.trans H; with_reducible exact H2_) | with_reducible exact H | (rw [hy452]; exact H) | exact H
               have Ny452 := Aside0.mk hy452
               clear hy452
               have H' := Aside0.mk H
               clear H
               have p448 : 0 ≤ (x43_3 : Int) := of_decide_eq_true (by first | (with_reducible assumption) | assumption)
               have q448 : x43_3 < (x5_1.length : Int) := of_decide_eq_true (by first | (with_reducible assumption) | assumption)
               obtain ⟨ad448, A448_0, c448_0, e448, hx448_0, hx448_1, hl448_0, hi448_0⟩ := at_T30 (Kd.R_reads' HO_41.out).2.2 x43_3 p448 q448
               cases e448
               obtain ⟨ce448, hce448, hMe448, hcc448⟩ := Kd.R_get HO_41.out z30 x43_3 p448 (by first | exact q448 | exact of_decide_eq_true (by first | (with_reducible assumption) | assumption) | (have e_ := (Kd.R_reads' HO_41.out).1; omega))
               obtain ⟨ve448_0, rfl, ge448_0⟩ := k30_openM hMe448
               have hv448_0 := hcc448 0 _ rfl
               rw [Nat.add_zero] at hv448_0
               replace hv448_0 := Option.some.inj (hv448_0.symm.trans hx448_0)
               rw [hv448_0] at ge448_0
               have HL448_0 := Aside0.mk (show Kd.R (Kd.slice 38 k38) 36 _ _ _ _ ((rd_T30 x5_1 x43_3).f0) from ge448_0)
               clear hv448_0 ge448_0
               clear hcc448 hce448
               have HR448_0 := Aside0.mk hi448_0
               have HC448_0 := Aside0.mk hl448_0
               clear hi448_0 hl448_0
               replace p448 := eq_true p448
               replace q448 := eq_true q448
               go_wp2_with (first | ((with_reducible refine gate_dst (N := 10) rfl ?_); (try (refine gate_guard (by rfl) ?_; dsimp only)); refine box_event ?hg (N := 10) ?hd (cs := #[.slice none 0 0, .bool false]) (t := 30) ?hr ?_; (case hd => rfl); (case hg => rfl); (case hr => first | (go_simp; done) | (go_simp; rfl)); intro gb449 hg w42 hbox hb; have n0_ := Aside0.mk (Kd.R_below (Kd.R_elderB (by (with_reducible repeat (first | apply Kd.R_alloc | apply Kd.R_drewN | apply Kd.R_drew)); exact HO_5.out) gb449 (Nat.le_of_eq hg.symm)) hb); have n1_ := Aside0.mk (Kd.R_below (by (with_reducible repeat (first | apply Kd.R_alloc | apply Kd.R_drewN | apply Kd.R_drew)); exact HO_8.out) hb); have n2_ := Aside0.mk (Kd.R_below (Kd.R_elderB (by (with_reducible repeat (first | apply Kd.R_alloc | apply Kd.R_drewN | apply Kd.R_drew)); exact HO_41.out) gb449 (Nat.le_of_eq hg.symm)) hb); have n3_ := Aside0.mk (Kd.R_below (by (with_reducible repeat (first | apply Kd.R_alloc | apply Kd.R_drewN | apply Kd.R_drew)); exact HL448_0.out) hb); have n4_ := Aside0.mk (blk_below (g := gb424) (o := .cells #[.int .i64 a1_0, .int .i64 a1_1, .int .i64 a1_2, .int .i64 a1_3, .int .i64 a1_4, .int .i64 a1_5] 26 (0, 0)) (by (with_reducible repeat (first | refine blk_drewN ?_ _ | refine blk_drew ?_ | refine blk_alloc ?_ _)); exact BK424.out) hb); have n5_ := Aside0.mk (Kd.C_below (by repeat (first | (with_reducible exact HR448_0.out) | (with_reducible refine Kd.C_alloc ?_ _) | (with_reducible refine Kd.C_drewN ?_ _) | (with_reducible refine Kd.C_drew ?_) | exact HR448_0.out)) hb); have n6_ := Aside0.mk (below_step (by repeat (first | (with_reducible first | exact HB.out | apply below_alloc | apply pw_below_drewN | apply below_drew1 | refine below_set ?_ GE424.out) | exact HB.out)) hb); have n7_ := Aside0.mk (hbox); have n8_ := Aside0.mk ((by rw [hg]; exact (below_size (by repeat (first | (with_reducible first | exact HB.out | apply below_alloc | apply pw_below_drewN | apply below_drew1 | refine below_set ?_ GE424.out) | exact HB.out))) : w.heap.size ≤ gb449)); have n9_ := Aside0.mk ((by rw [hg]; exact (below_size (by repeat (first | (with_reducible first | exact HB.out | apply below_alloc | apply pw_below_drewN | apply below_drew1 | refine below_set ?_ GE424.out) | exact HB.out))) : w.heap.size ≤ gb449)); have n10_ := Aside0.mk ((by rw [hg]; exact Nat.ne_of_lt (blk_lt (g := gb424) (o := .cells #[.int .i64 a1_0, .int .i64 a1_1, .int .i64 a1_2, .int .i64 a1_3, .int .i64 a1_4, .int .i64 a1_5] 26 (0, 0)) (by (with_reducible repeat (first | refine blk_drewN ?_ _ | refine blk_drew ?_ | refine blk_alloc ?_ _)); exact BK424.out)) : gb424 ≠ gb449)); have n11_ := Aside0.mk ((by rw [hg]; exact Nat.ne_of_gt (blk_lt (g := gb424) (o := .cells #[.int .i64 a1_0, .int .i64 a1_1, .int .i64 a1_2, .int .i64 a1_3, .int .i64 a1_4, .int .i64 a1_5] 26 (0, 0)) (by (with_reducible repeat (first | refine blk_drewN ?_ _ | refine blk_drew ?_ | refine blk_alloc ?_ _)); exact BK424.out)) : gb449 ≠ gb424)); clear HO_5; clear HO_8; clear HO_41; clear HL448_0; clear BK424; clear HR448_0; clear HB; have HO_5 := n0_; have HO_8 := n1_; have HO_41 := n2_; have HL448_0 := n3_; have BK424 := n4_; have HR448_0 := n5_; have HB := n6_; have BK449 := n7_; have GW449 := n8_; have GE449 := n9_; have NB424_449 := n10_; have NB449_424 := n11_; clear n0_ n1_ n2_ n3_ n4_ n5_ n6_ n7_ n8_ n9_ n10_ n11_; clear hb hbox hg; have hnb43 := NB449_424.out; have hnc43 := NB424_449.out; have hcz44_0 : w42.cell? ⟨gb449, 0, none⟩ = some (.slice none 0 0) := (blk_cell BK449.out 0).trans rfl; have hcz44_1 : w42.cell? ⟨gb449, 1, none⟩ = some (.bool false) := (blk_cell BK449.out 1).trans rfl; have hfz44_0 := blk_frozen BK449.out 0; have hfz44_1 := blk_frozen BK449.out 1) | ((with_reducible refine gate_callee (f := 28) rfl ?_); refine goesL_ (some 48) rfl rfl Tryz.func28 (by kernel_rfl) rfl #[.agg #[.slice A448_0 ((rd_T30 x5_1 x43_3).f0).length c448_0, .bool ((rd_T30 x5_1 x43_3).f1)]] rfl (by (try simp only [List.map_toArray, List.map_cons, List.map_nil]); first | done | rfl | (simp only [List.length_drop, List.length_take]; rfl)) ?_; (with_reducible refine (spec_ExprGood.calls k3 _ _ ((rd_T30 x5_1 x43_3).f0) ((rd_T30 x5_1 x43_3).f1) true _ ?side1 ?side2 A38.out).mono ?_); (case side1 => repeat (first | exact ((Kd.R_reads' (by (with_reducible repeat (first | apply Kd.R_alloc | apply Kd.R_drewN | apply Kd.R_drew)); exact (Kd.R_mono (Kd.R_far (p := ⟨gb449, 1, none⟩) (Kd.R_far (p := ⟨gb449, 0, none⟩) (Kd.R_types HL448_0.out BK449.out (by decide)) (fun _ hk => hk.2) (.slice A448_0 ((rd_T30 x5_1 x43_3).f0).length c448_0)) (fun _ hk => hk.2) (.bool ((rd_T30 x5_1 x43_3).f1))) (fun _ h_ => h_.1)))).2.2) | (with_reducible refine Kd.C_alloc ?_ _) | (with_reducible refine Kd.C_drewN ?_ _) | (with_reducible refine Kd.C_drew ?_))); (case side2 => exact HC448_0.out); rintro e w45 ⟨rfl, hb⟩; refine ⟨_, rfl, ?_⟩; have n0_ := Aside0.mk (Kd.R_below (by (with_reducible repeat (first | apply Kd.R_alloc | apply Kd.R_drewN | apply Kd.R_drew)); exact (Kd.R_mono (Kd.R_far (p := ⟨gb449, 1, none⟩) (Kd.R_far (p := ⟨gb449, 0, none⟩) (Kd.R_mono HO_5.out (fun k_ hk => (⟨hk, hk.2⟩ : _ ∧ k_ ≠ gb449))) (fun _ hk => hk.2) (.slice A448_0 ((rd_T30 x5_1 x43_3).f0).length c448_0)) (fun _ hk => hk.2) (.bool ((rd_T30 x5_1 x43_3).f1))) (fun _ h_ => h_.1))) hb); have n1_ := Aside0.mk (Kd.R_below (by (with_reducible repeat (first | apply Kd.R_alloc | apply Kd.R_drewN | apply Kd.R_drew)); exact (Kd.R_mono (Kd.R_far (p := ⟨gb449, 1, none⟩) (Kd.R_far (p := ⟨gb449, 0, none⟩) (Kd.R_types HO_8.out BK449.out (by decide)) (fun _ hk => hk.2) (.slice A448_0 ((rd_T30 x5_1 x43_3).f0).length c448_0)) (fun _ hk => hk.2) (.bool ((rd_T30 x5_1 x43_3).f1))) (fun _ h_ => h_.1))) hb); have n2_ := Aside0.mk (Kd.R_below (by (with_reducible repeat (first | apply Kd.R_alloc | apply Kd.R_drewN | apply Kd.R_drew)); exact (Kd.R_mono (Kd.R_far (p := ⟨gb449, 1, none⟩) (Kd.R_far (p := ⟨gb449, 0, none⟩) (Kd.R_mono HO_41.out (fun k_ hk => (⟨hk, hk.2⟩ : _ ∧ k_ ≠ gb449))) (fun _ hk => hk.2) (.slice A448_0 ((rd_T30 x5_1 x43_3).f0).length c448_0)) (fun _ hk => hk.2) (.bool ((rd_T30 x5_1 x43_3).f1))) (fun _ h_ => h_.1))) hb); have n3_ := Aside0.mk (Kd.R_below (by (with_reducible repeat (first | apply Kd.R_alloc | apply Kd.R_drewN | apply Kd.R_drew)); exact (Kd.R_mono (Kd.R_far (p := ⟨gb449, 1, none⟩) (Kd.R_far (p := ⟨gb449, 0, none⟩) (Kd.R_types HL448_0.out BK449.out (by decide)) (fun _ hk => hk.2) (.slice A448_0 ((rd_T30 x5_1 x43_3).f0).length c448_0)) (fun _ hk => hk.2) (.bool ((rd_T30 x5_1 x43_3).f1))) (fun _ h_ => h_.1))) hb); have n4_ := Aside0.mk (blk_below (g := gb424) (o := .cells #[.int .i64 a1_0, .int .i64 a1_1, .int .i64 a1_2, .int .i64 a1_3, .int .i64 a1_4, .int .i64 a1_5] 26 (0, 0)) (by (with_reducible repeat (first | refine blk_drewN ?_ _ | refine blk_drew ?_ | refine blk_alloc ?_ _)); refine blk_far ?_ NB424_449.out _; (with_reducible repeat (first | refine blk_drewN ?_ _ | refine blk_drew ?_ | refine blk_alloc ?_ _)); refine blk_far ?_ NB424_449.out _; (with_reducible repeat (first | refine blk_drewN ?_ _ | refine blk_drew ?_ | refine blk_alloc ?_ _)); exact BK424.out) hb); have n5_ := Aside0.mk (Kd.C_below ((Kd.R_reads' (by (with_reducible repeat (first | apply Kd.R_alloc | apply Kd.R_drewN | apply Kd.R_drew)); exact (Kd.R_mono (Kd.R_far (p := ⟨gb449, 1, none⟩) (Kd.R_far (p := ⟨gb449, 0, none⟩) (Kd.R_types HL448_0.out BK449.out (by decide)) (fun _ hk => hk.2) (.slice A448_0 ((rd_T30 x5_1 x43_3).f0).length c448_0)) (fun _ hk => hk.2) (.bool ((rd_T30 x5_1 x43_3).f1))) (fun _ h_ => h_.1)))).2.2) hb); have n6_ := Aside0.mk (blk_below (g := gb449) (o := .cells #[.slice A448_0 ((rd_T30 x5_1 x43_3).f0).length c448_0, .bool ((rd_T30 x5_1 x43_3).f1)] 30 (0, 0)) (by (with_reducible repeat (first | refine blk_drewN ?_ _ | refine blk_drew ?_ | refine blk_alloc ?_ _)); refine blk_put (cs := #[.slice A448_0 ((rd_T30 x5_1 x43_3).f0).length c448_0, .bool false]) ?_ 1 _ rfl; (with_reducible repeat (first | refine blk_drewN ?_ _ | refine blk_drew ?_ | refine blk_alloc ?_ _)); refine blk_put (cs := #[.slice none 0 0, .bool false]) ?_ 0 _ rfl; (with_reducible repeat (first | refine blk_drewN ?_ _ | refine blk_drew ?_ | refine blk_alloc ?_ _)); exact BK449.out) hb); have n7_ := Aside0.mk (below_step (by repeat (first | (with_reducible first | exact HB.out | apply below_alloc | apply pw_below_drewN | apply below_drew1 | refine below_set ?_ GE424.out | refine below_set ?_ GE449.out) | exact HB.out)) hb); clear HO_5; clear HO_8; clear HO_41; clear HL448_0; clear BK424; clear HR448_0; clear BK449; clear HB; have HO_5 := n0_; have HO_8 := n1_; have HO_41 := n2_; have HL448_0 := n3_; have BK424 := n4_; have HR448_0 := n5_; have BK449 := n6_; have HB := n7_; clear n0_ n1_ n2_ n3_ n4_ n5_ n6_ n7_; (try clear hb); (try clear hb2); (try clear hk); (try clear hi); have hcz46_0 : w45.cell? ⟨gb449, 0, none⟩ = some (.slice A448_0 ((rd_T30 x5_1 x43_3).f0).length c448_0) := (blk_cell BK449.out 0).trans rfl; have hcz46_1 : w45.cell? ⟨gb449, 1, none⟩ = some (.bool ((rd_T30 x5_1 x43_3).f1)) := (blk_cell BK449.out 1).trans rfl; have hfz46_0 := blk_frozen BK449.out 0; have hfz46_1 := blk_frozen BK449.out 1) | ((with_reducible refine gate_callee (f := 15) rfl ?_); refine goesL_ (some 52) rfl rfl Tryz.func15 (by kernel_rfl) rfl #[.agg #[.slice A448_0 ((rd_T30 x5_1 x43_3).f0).length c448_0, .bool ((rd_T30 x5_1 x43_3).f1)]] rfl (by (try simp only [List.map_toArray, List.map_cons, List.map_nil]); first | done | rfl | (simp only [List.length_drop, List.length_take]; rfl)) ?_; (with_reducible refine (spec_Text.calls k3 _ _ ((rd_T30 x5_1 x43_3).f0) ((rd_T30 x5_1 x43_3).f1) t451 _ ?side1 ?side2 A40.out).mono ?_); (case side1 => repeat (first | exact (by repeat (first | (with_reducible exact HR448_0.out) | (with_reducible refine Kd.C_alloc ?_ _) | (with_reducible refine Kd.C_drewN ?_ _) | (with_reducible refine Kd.C_drew ?_) | exact HR448_0.out)) | (with_reducible refine Kd.C_alloc ?_ _) | (with_reducible refine Kd.C_drewN ?_ _) | (with_reducible refine Kd.C_drew ?_))); (case side2 => exact HC448_0.out); rintro e w47 ⟨rfl, hb⟩; refine ⟨_, rfl, ?_⟩; have n0_ := Aside0.mk (Kd.R_below (by (with_reducible repeat (first | apply Kd.R_alloc | apply Kd.R_drewN | apply Kd.R_drew)); exact HO_5.out) hb); have n1_ := Aside0.mk (Kd.R_below (by (with_reducible repeat (first | apply Kd.R_alloc | apply Kd.R_drewN | apply Kd.R_drew)); exact HO_8.out) hb); have n2_ := Aside0.mk (Kd.R_below (by (with_reducible repeat (first | apply Kd.R_alloc | apply Kd.R_drewN | apply Kd.R_drew)); exact HO_41.out) hb); have n3_ := Aside0.mk (Kd.R_below (by (with_reducible repeat (first | apply Kd.R_alloc | apply Kd.R_drewN | apply Kd.R_drew)); exact HL448_0.out) hb); have n4_ := Aside0.mk (blk_below (g := gb424) (o := .cells #[.int .i64 a1_0, .int .i64 a1_1, .int .i64 a1_2, .int .i64 a1_3, .int .i64 a1_4, .int .i64 a1_5] 26 (0, 0)) (by (with_reducible repeat (first | refine blk_drewN ?_ _ | refine blk_drew ?_ | refine blk_alloc ?_ _)); exact BK424.out) hb); have n5_ := Aside0.mk (Kd.C_below (by repeat (first | (with_reducible exact HR448_0.out) | (with_reducible refine Kd.C_alloc ?_ _) | (with_reducible refine Kd.C_drewN ?_ _) | (with_reducible refine Kd.C_drew ?_) | exact HR448_0.out)) hb); have n6_ := Aside0.mk (blk_below (g := gb449) (o := .cells #[.slice A448_0 ((rd_T30 x5_1 x43_3).f0).length c448_0, .bool ((rd_T30 x5_1 x43_3).f1)] 30 (0, 0)) (by (with_reducible repeat (first | refine blk_drewN ?_ _ | refine blk_drew ?_ | refine blk_alloc ?_ _)); exact BK449.out) hb); have n7_ := Aside0.mk (below_step (by repeat (first | (with_reducible first | exact HB.out | apply below_alloc | apply pw_below_drewN | apply below_drew1 | refine below_set ?_ GE424.out | refine below_set ?_ GE449.out) | exact HB.out)) hb); clear HO_5; clear HO_8; clear HO_41; clear HL448_0; clear BK424; clear HR448_0; clear BK449; clear HB; have HO_5 := n0_; have HO_8 := n1_; have HO_41 := n2_; have HL448_0 := n3_; have BK424 := n4_; have HR448_0 := n5_; have BK449 := n6_; have HB := n7_; clear n0_ n1_ n2_ n3_ n4_ n5_ n6_ n7_; (try clear hb); (try clear hb2); (try clear hk); (try clear hi)) | ((with_reducible refine gate_builtin (b := .append) (xs := #[.tmp 50, .tmp 53]) rfl ?_); (try (refine gate_guard (by rfl) ?_; dsimp only)); at_builtin; refine Kd.R_append Kd.string (w0 := w) w.heap.size rfl (.tmp 50) (.tmp 53) 55 9 (.string ⟨#[]⟩) 16 rfl Tryz.underlying55 info9 rfl (by decide) (by omega) u8 x8_3 t451 [.string t451] (fun _ => True) (fun _ => False) rfl rfl ?aP (fun _ hk => hk.elim) ?aF ?aO ?aB ?aS ?aL ?_; (case aP => exact rfl); (case aB => exact (by repeat (first | (with_reducible first | exact HB.out | apply below_alloc | apply pw_below_drewN | apply below_drew1 | refine below_set ?_ GE424.out | refine below_set ?_ GE449.out) | exact HB.out))); (case aF => exact (fun _ _ => trivial)); (case aO => exact (by (with_reducible repeat (first | apply Kd.R_alloc | apply Kd.R_drewN | apply Kd.R_drew)); exact HO_8.out)); (case aS => exact (below_size (by repeat (first | (with_reducible first | exact HB.out | apply below_alloc | apply pw_below_drewN | apply below_drew1 | refine below_set ?_ GE424.out | refine below_set ?_ GE449.out) | exact HB.out)))); (case aL => have := LMc41.out; omega); intro v453 w48 ho hb hg hat; rw [← Ny452.out] at ho; have n0_ := Aside0.mk (Kd.R_over' (by (with_reducible repeat (first | apply Kd.R_alloc | apply Kd.R_drewN | apply Kd.R_drew)); exact HO_5.out) (Kd.R_typed (by (with_reducible repeat (first | apply Kd.R_alloc | apply Kd.R_drewN | apply Kd.R_drew)); exact HO_8.out)) (by decide) hg); have n1_ := Aside0.mk (Kd.R_over' (by (with_reducible repeat (first | apply Kd.R_alloc | apply Kd.R_drewN | apply Kd.R_drew)); exact HO_41.out) (Kd.R_typed (by (with_reducible repeat (first | apply Kd.R_alloc | apply Kd.R_drewN | apply Kd.R_drew)); exact HO_8.out)) (by decide) hg); have n2_ := Aside0.mk (blk_grown (g := gb424) (o := .cells #[.int .i64 a1_0, .int .i64 a1_1, .int .i64 a1_2, .int .i64 a1_3, .int .i64 a1_4, .int .i64 a1_5] 26 (0, 0)) (by (with_reducible repeat (first | refine blk_drewN ?_ _ | refine blk_drew ?_ | refine blk_alloc ?_ _)); exact BK424.out) hg (Kd.R_ne HO_8.out BK424.out (by decide))); have n3_ := Aside0.mk (Kd.R_over' (by (with_reducible repeat (first | apply Kd.R_alloc | apply Kd.R_drewN | apply Kd.R_drew)); exact HL448_0.out) (Kd.R_typed (by (with_reducible repeat (first | apply Kd.R_alloc | apply Kd.R_drewN | apply Kd.R_drew)); exact HO_8.out)) (by decide) hg); have n4_ := Aside0.mk (blk_grown (g := gb449) (o := .cells #[.slice A448_0 ((rd_T30 x5_1 x43_3).f0).length c448_0, .bool ((rd_T30 x5_1 x43_3).f1)] 30 (0, 0)) (by (with_reducible repeat (first | refine blk_drewN ?_ _ | refine blk_drew ?_ | refine blk_alloc ?_ _)); exact BK449.out) hg (Kd.R_ne HO_8.out BK449.out (by decide))); have n5_ := Aside0.mk (hb); have n6_ := Aside0.mk (ho); clear HO_5; clear HO_41; clear BK424; clear HL448_0; clear BK449; clear HB; clear HO_8; have HO_5 := n0_; have HO_41 := n1_; have BK424 := n2_; have HL448_0 := n3_; have BK449 := n4_; have HB := n5_; have HO454 := n6_; clear n0_ n1_ n2_ n3_ n4_ n5_ n6_; clear ho hb hg hat))
               go_roundg k3
               case measure => have := HK1.out; have := HJ19.out; have := HK3.out; omega
               case rel => exact ⟨(y452), (wrap64 (x43_3 + 1)), (by first | rfl | (simp; done) | (simp [*]; done)), H', ⟨by have := HK1.out; have := HJ19.out; have := HK3.out; omega⟩, ⟨by (with_reducible repeat (first | apply Kd.R_alloc | apply Kd.R_drewN | apply Kd.R_drew)); exact Kd.R_mono HO_5.out (fun _ hk => trivial)⟩, ⟨by (with_reducible repeat (first | apply Kd.R_alloc | apply Kd.R_drewN | apply Kd.R_drew)); exact HO454.out⟩, ⟨by (with_reducible repeat (first | apply Kd.R_alloc | apply Kd.R_drewN | apply Kd.R_drew)); exact Kd.R_mono HO_41.out (fun _ hk => trivial)⟩, ⟨by (with_reducible repeat (first | refine blk_drewN ?_ _ | refine blk_drew ?_ | refine blk_alloc ?_ _)); exact BK424.out⟩, ⟨by repeat (first | (with_reducible first | exact HB.out | apply below_alloc | apply pw_below_drewN | apply below_drew1 | refine below_set ?_ GE424.out | refine below_set ?_ GE449.out) | exact HB.out)⟩⟩
              ·rw [if_neg c41] at H
               exact absurd H (by simp)
             ·replace c39 := Bool.eq_false_iff.mpr c39
              subst c39
              have H1 : (some true) = some r := by rw [if_neg (show ¬ (false = true) by decide)] at H; exact H
              clear H
              have H := H1
              clear H1
              obtain rfl := Option.some.inj H
              have p448 : 0 ≤ (x43_3 : Int) := of_decide_eq_true (by first | (with_reducible assumption) | assumption)
              have q448 : x43_3 < (x5_1.length : Int) := of_decide_eq_true (by first | (with_reducible assumption) | assumption)
              obtain ⟨ad448, A448_0, c448_0, e448, hx448_0, hx448_1, hl448_0, hi448_0⟩ := at_T30 (Kd.R_reads' HO_41.out).2.2 x43_3 p448 q448
              cases e448
              obtain ⟨ce448, hce448, hMe448, hcc448⟩ := Kd.R_get HO_41.out z30 x43_3 p448 (by first | exact q448 | exact of_decide_eq_true (by first | (with_reducible assumption) | assumption) | (have e_ := (Kd.R_reads' HO_41.out).1; omega))
              obtain ⟨ve448_0, rfl, ge448_0⟩ := k30_openM hMe448
              have hv448_0 := hcc448 0 _ rfl
              rw [Nat.add_zero] at hv448_0
              replace hv448_0 := Option.some.inj (hv448_0.symm.trans hx448_0)
              rw [hv448_0] at ge448_0
              have HL448_0 := Aside0.mk (show Kd.R (Kd.slice 38 k38) 36 _ _ _ _ ((rd_T30 x5_1 x43_3).f0) from ge448_0)
              clear hv448_0 ge448_0
              clear hcc448 hce448
              have HR448_0 := Aside0.mk hi448_0
              have HC448_0 := Aside0.mk hl448_0
              clear hi448_0 hl448_0
              replace p448 := eq_true p448
              replace q448 := eq_true q448
              go_wp2_with (first | ((with_reducible refine gate_dst (N := 10) rfl ?_); (try (refine gate_guard (by rfl) ?_; dsimp only)); refine box_event ?hg (N := 10) ?hd (cs := #[.slice none 0 0, .bool false]) (t := 30) ?hr ?_; (case hd => rfl); (case hg => rfl); (case hr => first | (go_simp; done) | (go_simp; rfl)); intro gb449 hg w49 hbox hb; have n0_ := Aside0.mk (Kd.R_below (Kd.R_elderB (by (with_reducible repeat (first | apply Kd.R_alloc | apply Kd.R_drewN | apply Kd.R_drew)); exact HO_5.out) gb449 (Nat.le_of_eq hg.symm)) hb); have n1_ := Aside0.mk (Kd.R_below (by (with_reducible repeat (first | apply Kd.R_alloc | apply Kd.R_drewN | apply Kd.R_drew)); exact HO_8.out) hb); have n2_ := Aside0.mk (Kd.R_below (Kd.R_elderB (by (with_reducible repeat (first | apply Kd.R_alloc | apply Kd.R_drewN | apply Kd.R_drew)); exact HO_41.out) gb449 (Nat.le_of_eq hg.symm)) hb); have n3_ := Aside0.mk (Kd.R_below (by (with_reducible repeat (first | apply Kd.R_alloc | apply Kd.R_drewN | apply Kd.R_drew)); exact HL448_0.out) hb); have n4_ := Aside0.mk (blk_below (g := gb424) (o := .cells #[.int .i64 a1_0, .int .i64 a1_1, .int .i64 a1_2, .int .i64 a1_3, .int .i64 a1_4, .int .i64 a1_5] 26 (0, 0)) (by (with_reducible repeat (first | refine blk_drewN ?_ _ | refine blk_drew ?_ | refine blk_alloc ?_ _)); exact BK424.out) hb); have n5_ := Aside0.mk (Kd.C_below (by repeat (first | (with_reducible exact HR448_0.out) | (with_reducible refine Kd.C_alloc ?_ _) | (with_reducible refine Kd.C_drewN ?_ _) | (with_reducible refine Kd.C_drew ?_) | exact HR448_0.out)) hb); have n6_ := Aside0.mk (below_step (by repeat (first | (with_reducible first | exact HB.out | apply below_alloc | apply pw_below_drewN | apply below_drew1 | refine below_set ?_ GE424.out) | exact HB.out)) hb); have n7_ := Aside0.mk (hbox); have n8_ := Aside0.mk ((by rw [hg]; exact (below_size (by repeat (first | (with_reducible first | exact HB.out | apply below_alloc | apply pw_below_drewN | apply below_drew1 | refine below_set ?_ GE424.out) | exact HB.out))) : w.heap.size ≤ gb449)); have n9_ := Aside0.mk ((by rw [hg]; exact (below_size (by repeat (first | (with_reducible first | exact HB.out | apply below_alloc | apply pw_below_drewN | apply below_drew1 | refine below_set ?_ GE424.out) | exact HB.out))) : w.heap.size ≤ gb449)); have n10_ := Aside0.mk ((by rw [hg]; exact Nat.ne_of_lt (blk_lt (g := gb424) (o := .cells #[.int .i64 a1_0, .int .i64 a1_1, .int .i64 a1_2, .int .i64 a1_3, .int .i64 a1_4, .int .i64 a1_5] 26 (0, 0)) (by (with_reducible repeat (first | refine blk_drewN ?_ _ | refine blk_drew ?_ | refine blk_alloc ?_ _)); exact BK424.out)) : gb424 ≠ gb449)); have n11_ := Aside0.mk ((by rw [hg]; exact Nat.ne_of_gt (blk_lt (g := gb424) (o := .cells #[.int .i64 a1_0, .int .i64 a1_1, .int .i64 a1_2, .int .i64 a1_3, .int .i64 a1_4, .int .i64 a1_5] 26 (0, 0)) (by (with_reducible repeat (first | refine blk_drewN ?_ _ | refine blk_drew ?_ | refine blk_alloc ?_ _)); exact BK424.out)) : gb449 ≠ gb424)); clear HO_5; clear HO_8; clear HO_41; clear HL448_0; clear BK424; clear HR448_0; clear HB; have HO_5 := n0_; have HO_8 := n1_; have HO_41 := n2_; have HL448_0 := n3_; have BK424 := n4_; have HR448_0 := n5_; have HB := n6_; have BK449 := n7_; have GW449 := n8_; have GE449 := n9_; have NB424_449 := n10_; have NB449_424 := n11_; clear n0_ n1_ n2_ n3_ n4_ n5_ n6_ n7_ n8_ n9_ n10_ n11_; clear hb hbox hg; have hnb50 := NB449_424.out; have hnc50 := NB424_449.out; have hcz51_0 : w49.cell? ⟨gb449, 0, none⟩ = some (.slice none 0 0) := (blk_cell BK449.out 0).trans rfl; have hcz51_1 : w49.cell? ⟨gb449, 1, none⟩ = some (.bool false) := (blk_cell BK449.out 1).trans rfl; have hfz51_0 := blk_frozen BK449.out 0; have hfz51_1 := blk_frozen BK449.out 1) | ((with_reducible refine gate_callee (f := 28) rfl ?_); refine goesL_ (some 48) rfl rfl Tryz.func28 (by kernel_rfl) rfl #[.agg #[.slice A448_0 ((rd_T30 x5_1 x43_3).f0).length c448_0, .bool ((rd_T30 x5_1 x43_3).f1)]] rfl (by (try simp only [List.map_toArray, List.map_cons, List.map_nil]); first | done | rfl | (simp only [List.length_drop, List.length_take]; rfl)) ?_; (with_reducible refine (spec_ExprGood.calls k3 _ _ ((rd_T30 x5_1 x43_3).f0) ((rd_T30 x5_1 x43_3).f1) false _ ?side1 ?side2 A38.out).mono ?_); (case side1 => repeat (first | exact ((Kd.R_reads' (by (with_reducible repeat (first | apply Kd.R_alloc | apply Kd.R_drewN | apply Kd.R_drew)); exact (Kd.R_mono (Kd.R_far (p := ⟨gb449, 1, none⟩) (Kd.R_far (p := ⟨gb449, 0, none⟩) (Kd.R_types HL448_0.out BK449.out (by decide)) (fun _ hk => hk.2) (.slice A448_0 ((rd_T30 x5_1 x43_3).f0).length c448_0)) (fun _ hk => hk.2) (.bool ((rd_T30 x5_1 x43_3).f1))) (fun _ h_ => h_.1)))).2.2) | (with_reducible refine Kd.C_alloc ?_ _) | (with_reducible refine Kd.C_drewN ?_ _) | (with_reducible refine Kd.C_drew ?_))); (case side2 => exact HC448_0.out); rintro e w52 ⟨rfl, hb⟩; refine ⟨_, rfl, ?_⟩; have n0_ := Aside0.mk (Kd.R_below (by (with_reducible repeat (first | apply Kd.R_alloc | apply Kd.R_drewN | apply Kd.R_drew)); exact (Kd.R_mono (Kd.R_far (p := ⟨gb449, 1, none⟩) (Kd.R_far (p := ⟨gb449, 0, none⟩) (Kd.R_mono HO_5.out (fun k_ hk => (⟨hk, hk.2⟩ : _ ∧ k_ ≠ gb449))) (fun _ hk => hk.2) (.slice A448_0 ((rd_T30 x5_1 x43_3).f0).length c448_0)) (fun _ hk => hk.2) (.bool ((rd_T30 x5_1 x43_3).f1))) (fun _ h_ => h_.1))) hb); have n1_ := Aside0.mk (Kd.R_below (by (with_reducible repeat (first | apply Kd.R_alloc | apply Kd.R_drewN | apply Kd.R_drew)); exact (Kd.R_mono (Kd.R_far (p := ⟨gb449, 1, none⟩) (Kd.R_far (p := ⟨gb449, 0, none⟩) (Kd.R_types HO_8.out BK449.out (by decide)) (fun _ hk => hk.2) (.slice A448_0 ((rd_T30 x5_1 x43_3).f0).length c448_0)) (fun _ hk => hk.2) (.bool ((rd_T30 x5_1 x43_3).f1))) (fun _ h_ => h_.1))) hb); have n2_ := Aside0.mk (Kd.R_below (by (with_reducible repeat (first | apply Kd.R_alloc | apply Kd.R_drewN | apply Kd.R_drew)); exact (Kd.R_mono (Kd.R_far (p := ⟨gb449, 1, none⟩) (Kd.R_far (p := ⟨gb449, 0, none⟩) (Kd.R_mono HO_41.out (fun k_ hk => (⟨hk, hk.2⟩ : _ ∧ k_ ≠ gb449))) (fun _ hk => hk.2) (.slice A448_0 ((rd_T30 x5_1 x43_3).f0).length c448_0)) (fun _ hk => hk.2) (.bool ((rd_T30 x5_1 x43_3).f1))) (fun _ h_ => h_.1))) hb); have n3_ := Aside0.mk (Kd.R_below (by (with_reducible repeat (first | apply Kd.R_alloc | apply Kd.R_drewN | apply Kd.R_drew)); exact (Kd.R_mono (Kd.R_far (p := ⟨gb449, 1, none⟩) (Kd.R_far (p := ⟨gb449, 0, none⟩) (Kd.R_types HL448_0.out BK449.out (by decide)) (fun _ hk => hk.2) (.slice A448_0 ((rd_T30 x5_1 x43_3).f0).length c448_0)) (fun _ hk => hk.2) (.bool ((rd_T30 x5_1 x43_3).f1))) (fun _ h_ => h_.1))) hb); have n4_ := Aside0.mk (blk_below (g := gb424) (o := .cells #[.int .i64 a1_0, .int .i64 a1_1, .int .i64 a1_2, .int .i64 a1_3, .int .i64 a1_4, .int .i64 a1_5] 26 (0, 0)) (by (with_reducible repeat (first | refine blk_drewN ?_ _ | refine blk_drew ?_ | refine blk_alloc ?_ _)); refine blk_far ?_ NB424_449.out _; (with_reducible repeat (first | refine blk_drewN ?_ _ | refine blk_drew ?_ | refine blk_alloc ?_ _)); refine blk_far ?_ NB424_449.out _; (with_reducible repeat (first | refine blk_drewN ?_ _ | refine blk_drew ?_ | refine blk_alloc ?_ _)); exact BK424.out) hb); have n5_ := Aside0.mk (Kd.C_below ((Kd.R_reads' (by (with_reducible repeat (first | apply Kd.R_alloc | apply Kd.R_drewN | apply Kd.R_drew)); exact (Kd.R_mono (Kd.R_far (p := ⟨gb449, 1, none⟩) (Kd.R_far (p := ⟨gb449, 0, none⟩) (Kd.R_types HL448_0.out BK449.out (by decide)) (fun _ hk => hk.2) (.slice A448_0 ((rd_T30 x5_1 x43_3).f0).length c448_0)) (fun _ hk => hk.2) (.bool ((rd_T30 x5_1 x43_3).f1))) (fun _ h_ => h_.1)))).2.2) hb); have n6_ := Aside0.mk (blk_below (g := gb449) (o := .cells #[.slice A448_0 ((rd_T30 x5_1 x43_3).f0).length c448_0, .bool ((rd_T30 x5_1 x43_3).f1)] 30 (0, 0)) (by (with_reducible repeat (first | refine blk_drewN ?_ _ | refine blk_drew ?_ | refine blk_alloc ?_ _)); refine blk_put (cs := #[.slice A448_0 ((rd_T30 x5_1 x43_3).f0).length c448_0, .bool false]) ?_ 1 _ rfl; (with_reducible repeat (first | refine blk_drewN ?_ _ | refine blk_drew ?_ | refine blk_alloc ?_ _)); refine blk_put (cs := #[.slice none 0 0, .bool false]) ?_ 0 _ rfl; (with_reducible repeat (first | refine blk_drewN ?_ _ | refine blk_drew ?_ | refine blk_alloc ?_ _)); exact BK449.out) hb); have n7_ := Aside0.mk (below_step (by repeat (first | (with_reducible first | exact HB.out | apply below_alloc | apply pw_below_drewN | apply below_drew1 | refine below_set ?_ GE424.out | refine below_set ?_ GE449.out) | exact HB.out)) hb); clear HO_5; clear HO_8; clear HO_41; clear HL448_0; clear BK424; clear HR448_0; clear BK449; clear HB; have HO_5 := n0_; have HO_8 := n1_; have HO_41 := n2_; have HL448_0 := n3_; have BK424 := n4_; have HR448_0 := n5_; have BK449 := n6_; have HB := n7_; clear n0_ n1_ n2_ n3_ n4_ n5_ n6_ n7_; (try clear hb); (try clear hb2); (try clear hk); (try clear hi)))
              go_ret
              exact ⟨by first | rfl | (simp [errW_none, errW_some] <;> rfl) | (simp [*, errW_none, errW_some] <;> rfl), by repeat (first | (with_reducible first | exact HB.out | apply below_alloc | apply pw_below_drewN | apply below_drew1 | refine below_set ?_ GE424.out | refine below_set ?_ GE449.out) | exact HB.out)⟩
            ·rw [if_neg c37] at H
             exact absurd H (by simp)
           ·rw [if_neg c36] at H
            exact absurd H (by simp)
          ·rw [if_neg c35] at H
           have c35b0 : decide (x43_3 < (x5_1.length : Int)) = false := decide_eq_false c35
           clear c35
           by_cases c53 : x8_3.length < 8796093022208
           ·rw [if_pos c53] at H
            have LMc53 := Aside0.mk c53
            clear c53
            obtain ⟨y455, hy455⟩ : ∃ y_ : List ByteArray, y_ = (x8_3 ++ [(⟨#[42, 32, 42, 32, 42, 32, 42, 32, 42]⟩ : ByteArray)]) := ⟨_, rfl⟩
            replace H : ((impl_Batch.f y455 a1_0 a1_1 a1_2 a1_3 a1_4 a1_5).bind fun bt458 => (if (bt458.1.length : Int) = (wrap64 ((x5_1.length : Int) + 1)) then (if (bt458.2.length : Int) = (bt458.1.length : Int) then (if 0 ≤ (x5_1.length : Int) then (if (x5_1.length : Int) < (bt458.1.length : Int) then (laws_FnBatch.j3 k3 x5_1 bt458.1 bt458.2 ((rdOf false bt458.1 (x5_1.length : Int)) != (a1_5 == 0)) a1_0 a1_1 a1_2 a1_3 a1_4 a1_5) else (none)) else (none)) else (laws_FnBatch.j3 k3 x5_1 bt458.1 bt458.2 true a1_0 a1_1 a1_2 a1_3 a1_4 a1_5)) else (laws_FnBatch.j3 k3 x5_1 bt458.1 bt458.2 true a1_0 a1_1 a1_2 a1_3 a1_4 a1_5))) = some r := by first | (rw [hy455]; with_reducible exact H) | (have H2_ := (Option.bind_some _ _).symm.trans H; rw [hy455]; with_reducible exact H2_) | (have H2_ := (Option.bind_some _ _).symm.trans H; with_reducible exact H2_) | with_reducible exact H | (rw [hy455]; exact H) | exact H
            have Ny455 := Aside0.mk hy455
            clear hy455
            replace H := Option.bind_eq_some_iff.mp H
            obtain ⟨⟨t458, t461⟩, A540, H⟩ := H
            replace H : (if (t458.length : Int) = (wrap64 ((x5_1.length : Int) + 1)) then (if (t461.length : Int) = (t458.length : Int) then (if 0 ≤ (x5_1.length : Int) then (if (x5_1.length : Int) < (t458.length : Int) then (laws_FnBatch.j3 k3 x5_1 t458 t461 ((rdOf false t458 (x5_1.length : Int)) != (a1_5 == 0)) a1_0 a1_1 a1_2 a1_3 a1_4 a1_5) else (none)) else (none)) else (laws_FnBatch.j3 k3 x5_1 t458 t461 true a1_0 a1_1 a1_2 a1_3 a1_4 a1_5)) else (laws_FnBatch.j3 k3 x5_1 t458 t461 true a1_0 a1_1 a1_2 a1_3 a1_4 a1_5)) = some r := H
            have A54 := Aside0.mk A540
            clear A540
            have HC55 := Aside0.mk H
            clear H
            try go_wp2
            have n0_ := Aside0.mk (Kd.R_drew HO_5.out)
            have n1_ := Aside0.mk (Kd.R_drew HO_8.out)
            have n2_ := Aside0.mk (Kd.R_drew HO_41.out)
            have n3_ := Aside0.mk (blk_drew BK424.out)
            have n4_ := Aside0.mk (below_drew1 HB.out)
            clear HO_5
            clear HO_8
            clear HO_41
            clear BK424
            clear HB
            have HO_5 := n0_
            have HO_8 := n1_
            have HO_41 := n2_
            have BK424 := n3_
            have HB := n4_
            clear n0_ n1_ n2_ n3_ n4_
            refine start_ (n := 10) (S := fun w' => w'.cell? ⟨gb424, 0, none⟩ = some (.int .i64 a1_0) ∧ w'.cell? ⟨gb424, 1, none⟩ = some (.int .i64 a1_1) ∧ w'.cell? ⟨gb424, 2, none⟩ = some (.int .i64 a1_2) ∧ w'.cell? ⟨gb424, 3, none⟩ = some (.int .i64 a1_3) ∧ w'.cell? ⟨gb424, 4, none⟩ = some (.int .i64 a1_4) ∧ w'.cell? ⟨gb424, 5, none⟩ = some (.int .i64 a1_5)) (ds := []) (Ya 10 0) (by kernel_rfl) rfl rfl ⟨(blk_cell BK424.out 0).trans rfl, (blk_cell BK424.out 1).trans rfl, (blk_cell BK424.out 2).trans rfl, (blk_cell BK424.out 3).trans rfl, (blk_cell BK424.out 4).trans rfl, (blk_cell BK424.out 5).trans rfl⟩ (fun hHeld => ?_); refine with_tabW laws_FnBatch.tab19 laws_FnBatch.bits19 (fun HT_ HW_ => ?_)
            generalize wr.drew = w56 at HO_5 HO_8 HO_41 BK424 HB hHeld ⊢
            refine pure_ (i := 0) (N := some 57) (v := ?_) (a' := ?_) (Ya 10 1) rfl rfl (any_of HT_.out (by kernel_rfl)) (fun _ _ _ h => h) (Or.inl ⟨by rfl, ?_⟩) ?_ ?_
            rotate_left
            ·intro w'
             go_simp
             with_reducible rfl
            rotate_left
            ·simp only [Act.put, List.setIfInBounds_toArray, List.set_cons_zero, List.set_cons_succ, i64_w, i32_w]
             rfl
            refine take_ (i := 3) (N := some 60) (v := ?_) (a' := ?_) (Ya 10 9) rfl rfl (take_ofW HT_.out HW_.out (by kernel_rfl)) (fun _ _ _ h => h) (Or.inl ⟨by rfl, ?_⟩) hHeld ?_ ?_
            rotate_left
            ·rintro w' ⟨s0, s1, s2, s3, s4, s5⟩
             go_simp
             with_reducible rfl
            rotate_left
            ·simp only [Act.put, List.setIfInBounds_toArray, List.set_cons_zero, List.set_cons_succ, i64_w, i32_w]
             rfl
            refine one_ (i := 1) (N := some 58) (Ya 10 11) rfl rfl (one_of HT_.out (by kernel_rfl)) (by decide) (fun K hK => ?_)
            refine value_ (w1 := ?_) (v := ?_) (by rfl) rfl ?_ ?_
            rotate_left 2
            ·go_simp
             constructor
             ·rfl
             ·rfl
            refine hK.out _ _ ⟨(blk_cell (blk_alloc BK424.out _) 0).trans rfl, (blk_cell (blk_alloc BK424.out _) 1).trans rfl, (blk_cell (blk_alloc BK424.out _) 2).trans rfl, (blk_cell (blk_alloc BK424.out _) 3).trans rfl, (blk_cell (blk_alloc BK424.out _) 4).trans rfl, (blk_cell (blk_alloc BK424.out _) 5).trans rfl⟩ (fun hHeld => ?_)
            clear hK K
            refine norm_ (a' := ?_) ?_ ?_
            rotate_left
            ·show Act.put _ (some 58) _ = _
             simp only [Act.put, List.setIfInBounds_toArray, List.set_cons_zero, List.set_cons_succ, i64_w, i32_w]
             rfl
            refine one_ (i := 2) (N := some 59) (Ya 10 15) rfl rfl (one_of HT_.out (by kernel_rfl)) (by decide) (fun K hK => ?_)
            refine Kd.R_append_step Kd.string (w0 := w) w.heap.size (by rfl) (.tmp 57) (.tmp 58) 55 9 (.string ⟨#[]⟩) 16 rfl Tryz.underlying55 info9 rfl (by decide) (by omega) u8 x8_3 (⟨#[42, 32, 42, 32, 42, 32, 42, 32, 42]⟩ : ByteArray) [.string (⟨#[42, 32, 42, 32, 42, 32, 42, 32, 42]⟩ : ByteArray)] (fun _ => True) (fun _ => False) rfl rfl ?aP (fun _ hk => hk.elim) ?aF ?aO ?aB ?aS ?aL ?_
            (case aP => exact rfl)
            (case aB => exact (by repeat (first | (with_reducible first | exact HB.out | apply below_alloc | apply pw_below_drewN | apply below_drew1 | refine below_set ?_ GE424.out) | exact HB.out)))
            (case aF => exact (fun _ _ => trivial))
            (case aO => exact (by (with_reducible repeat (first | apply Kd.R_alloc | apply Kd.R_drewN | apply Kd.R_drew)); exact HO_8.out))
            (case aS => exact (below_size (by repeat (first | (with_reducible first | exact HB.out | apply below_alloc | apply pw_below_drewN | apply below_drew1 | refine below_set ?_ GE424.out) | exact HB.out))))
            (case aL => have := LMc53.out; omega)
            intro v456 w57 ho hb hg hat
            rw [← Ny455.out] at ho
            have n0_ := Aside0.mk (Kd.R_over' (by (with_reducible repeat (first | apply Kd.R_alloc | apply Kd.R_drewN | apply Kd.R_drew)); exact HO_5.out) (Kd.R_typed (by (with_reducible repeat (first | apply Kd.R_alloc | apply Kd.R_drewN | apply Kd.R_drew)); exact HO_8.out)) (by decide) hg)
            have n1_ := Aside0.mk (Kd.R_over' (by (with_reducible repeat (first | apply Kd.R_alloc | apply Kd.R_drewN | apply Kd.R_drew)); exact HO_41.out) (Kd.R_typed (by (with_reducible repeat (first | apply Kd.R_alloc | apply Kd.R_drewN | apply Kd.R_drew)); exact HO_8.out)) (by decide) hg)
            have n2_ := Aside0.mk (blk_grown (g := gb424) (o := .cells #[.int .i64 a1_0, .int .i64 a1_1, .int .i64 a1_2, .int .i64 a1_3, .int .i64 a1_4, .int .i64 a1_5] 26 (0, 0)) (by (with_reducible repeat (first | refine blk_drewN ?_ _ | refine blk_drew ?_ | refine blk_alloc ?_ _)); exact BK424.out) hg (Kd.R_ne HO_8.out BK424.out (by decide)))
            have n3_ := Aside0.mk (hb)
            have n4_ := Aside0.mk (ho)
            clear HO_5
            clear HO_41
            clear BK424
            clear HB
            clear HO_8
            have HO_5 := n0_
            have HO_41 := n1_
            have BK424 := n2_
            have HB := n3_
            have HO457 := n4_
            clear n0_ n1_ n2_ n3_ n4_
            clear ho hb hg hat
            obtain ⟨Ao58, co58, eo58⟩ := Kd.R_slice HO457.out
            (first | subst eo58 | (injection eo58 with f1_ f2_ f3_; have f4_ := f1_.symm; have f5_ := f3_.symm; clear f1_ f2_ f3_; subst f4_; subst f5_))
            refine hK.out _ _ ⟨(blk_cell BK424.out 0).trans rfl, (blk_cell BK424.out 1).trans rfl, (blk_cell BK424.out 2).trans rfl, (blk_cell BK424.out 3).trans rfl, (blk_cell BK424.out 4).trans rfl, (blk_cell BK424.out 5).trans rfl⟩ (fun hHeld => ?_)
            clear hK K
            refine norm_ (a' := ?_) ?_ ?_
            rotate_left
            ·show Act.put _ (some 59) _ = _
             simp only [Act.put, List.setIfInBounds_toArray, List.set_cons_zero, List.set_cons_succ, i64_w, i32_w]
             rfl
            refine one_ (i := 4) (N := some 61) (Ya 10 31) rfl rfl (one_of HT_.out (by kernel_rfl)) (by decide) (fun K hK => ?_)
            refine goes_ Tryz.func29 (by kernel_rfl) rfl #[.slice Ao58 y455.length co58, .agg #[.int .i64 a1_0, .int .i64 a1_1, .int .i64 a1_2, .int .i64 a1_3, .int .i64 a1_4, .int .i64 a1_5]] (by rfl) rfl rfl (by (try simp only [List.map_toArray, List.map_cons, List.map_nil]); first | done | rfl | (simp only [List.length_drop, List.length_take]; rfl)) ?_
            with_reducible refine (impl_Batch.calls _ _ y455 a1_0 a1_1 a1_2 a1_3 a1_4 a1_5 t458 t461 _ ?side1 ?side2 A54.out).mono ?_
            (case side1 => repeat (first | exact (Kd.R_reads' HO457.out).2.2 | (with_reducible refine Kd.C_alloc ?_ _) | (with_reducible refine Kd.C_drewN ?_ _) | (with_reducible refine Kd.C_drew ?_)))
            (case side2 => exact (Kd.R_reads' HO457.out).2.1)
            rintro e w59 ⟨v459, v462, rfl, ho0, ho1, hb⟩
            refine ⟨_, rfl, ?_⟩
            have n0_ := Aside0.mk (Kd.R_below (by (with_reducible repeat (first | apply Kd.R_alloc | apply Kd.R_drewN | apply Kd.R_drew)); exact HO_5.out) hb)
            have n1_ := Aside0.mk (Kd.R_below (by (with_reducible repeat (first | apply Kd.R_alloc | apply Kd.R_drewN | apply Kd.R_drew)); exact HO_41.out) hb)
            have n2_ := Aside0.mk (Kd.R_below (by (with_reducible repeat (first | apply Kd.R_alloc | apply Kd.R_drewN | apply Kd.R_drew)); exact HO457.out) hb)
            have n3_ := Aside0.mk (Kd.R_lower ho0 (below_size (by repeat (first | (with_reducible first | exact HB.out | apply below_alloc | apply pw_below_drewN | apply below_drew1 | refine below_set ?_ GE424.out) | exact HB.out))))
            have n4_ := Aside0.mk (Kd.R_lower ho1 (below_size (by repeat (first | (with_reducible first | exact HB.out | apply below_alloc | apply pw_below_drewN | apply below_drew1 | refine below_set ?_ GE424.out) | exact HB.out))))
            have n5_ := Aside0.mk (blk_below (g := gb424) (o := .cells #[.int .i64 a1_0, .int .i64 a1_1, .int .i64 a1_2, .int .i64 a1_3, .int .i64 a1_4, .int .i64 a1_5] 26 (0, 0)) (by (with_reducible repeat (first | refine blk_drewN ?_ _ | refine blk_drew ?_ | refine blk_alloc ?_ _)); exact BK424.out) hb)
            have n6_ := Aside0.mk (below_step (by repeat (first | (with_reducible first | exact HB.out | apply below_alloc | apply pw_below_drewN | apply below_drew1 | refine below_set ?_ GE424.out) | exact HB.out)) hb)
            clear HO_5
            clear HO_41
            clear HO457
            clear BK424
            clear HB
            have HO_5 := n0_
            have HO_41 := n1_
            have HO457 := n2_
            have HO460 := n3_
            have HO463 := n4_
            have BK424 := n5_
            have HB := n6_
            clear n0_ n1_ n2_ n3_ n4_ n5_ n6_
            (try clear hb)
            (try clear hb2)
            (try clear hk)
            (try clear hi)
            (try clear ho0)
            (try clear ho1)
            refine hK.out _ _ ⟨(blk_cell BK424.out 0).trans rfl, (blk_cell BK424.out 1).trans rfl, (blk_cell BK424.out 2).trans rfl, (blk_cell BK424.out 3).trans rfl, (blk_cell BK424.out 4).trans rfl, (blk_cell BK424.out 5).trans rfl⟩ (fun hHeld => ?_)
            clear hK K
            refine norm_ (a' := ?_) ?_ ?_
            rotate_left
            ·show Act.put _ (some 61) _ = _
             simp only [Act.put, List.setIfInBounds_toArray, List.set_cons_zero, List.set_cons_succ, i64_w, i32_w]
             rfl
            refine pure_ (i := 5) (N := some 56) (v := ?_) (a' := ?_) (Ya 10 63) rfl rfl (any_of HT_.out (by kernel_rfl)) (fun _ _ _ h => h) (Or.inl ⟨by rfl, ?_⟩) ?_ ?_
            rotate_left
            ·intro w'
             go_simp
             with_reducible rfl
            rotate_left
            ·simp only [Act.put, List.setIfInBounds_toArray, List.set_cons_zero, List.set_cons_succ, i64_w, i32_w]
             rfl
            refine pure_ (i := 6) (N := some 62) (v := ?_) (a' := ?_) (Ya 10 127) rfl rfl (any_of HT_.out (by kernel_rfl)) (fun _ _ _ h => h) (Or.inl ⟨by rfl, ?_⟩) ?_ ?_
            rotate_left
            ·intro w'
             go_simp
             with_reducible rfl
            rotate_left
            ·simp only [Act.put, List.setIfInBounds_toArray, List.set_cons_zero, List.set_cons_succ, i64_w, i32_w]
             rfl
            refine pure_ (i := 7) (N := some 63) (v := ?_) (a' := ?_) (Ya 10 255) rfl rfl (any_of HT_.out (by kernel_rfl)) (fun _ _ _ h => h) (Or.inl ⟨by rfl, ?_⟩) ?_ ?_
            rotate_left
            ·intro w'
             go_simp
             with_reducible rfl
            rotate_left
            ·simp only [Act.put, List.setIfInBounds_toArray, List.set_cons_zero, List.set_cons_succ, i64_w, i32_w]
             rfl
            refine pure_ (i := 8) (N := some 11) (v := ?_) (a' := ?_) (Ya 10 511) rfl rfl (any_of HT_.out (by kernel_rfl)) (fun _ _ _ h => h) (Or.inl ⟨by rfl, ?_⟩) ?_ ?_
            rotate_left
            ·intro w'
             go_simp
             with_reducible rfl
            rotate_left
            ·simp only [Act.put, List.setIfInBounds_toArray, List.set_cons_zero, List.set_cons_succ, i64_w, i32_w]
             rfl
            refine pure_ (i := 9) (N := some 12) (v := ?_) (a' := ?_) (Ya 10 1023) rfl rfl (any_of HT_.out (by kernel_rfl)) (fun _ _ _ h => h) (Or.inl ⟨by rfl, ?_⟩) ?_ ?_
            rotate_left
            ·intro w'
             go_simp
             with_reducible rfl
            rotate_left
            ·simp only [Act.put, List.setIfInBounds_toArray, List.set_cons_zero, List.set_cons_succ, i64_w, i32_w]
             rfl
            refine done_ (done_of HT_.out (by kernel_rfl)) ?_
            go_upto_region 20 with (fail)
            go_cut [87] (fun v87 wc => ∃ (kq : Nat) (x87_54 : Bool), v87 = .bool x87_54 ∧ Aside0 (laws_FnBatch.j3 kq x5_1 t458 t461 x87_54 a1_0 a1_1 a1_2 a1_3 a1_4 a1_5 = some r) ∧ Aside0 (kq ≤ k3) ∧ Aside0 (Kd.R k30 30 wc w.heap.size (fun _ => True) (.slice Ao34 x5_1.length co34) x5_1) ∧ Aside0 (Kd.R Kd.bool 4 wc w.heap.size (fun k_ => some k_ ≠ (v462 : Value).ownBlock) v459 t458) ∧ Aside0 (Kd.R Kd.bool 4 wc w.heap.size (fun k_ => some k_ ≠ (v459 : Value).ownBlock) v462 t461) ∧ Aside0 (wc.heap[gb424]? = some (.cells #[.int .i64 a1_0, .int .i64 a1_1, .int .i64 a1_2, .int .i64 a1_3, .int .i64 a1_4, .int .i64 a1_5] 26 (0, 0))) ∧ Aside0 (Below w.heap.size w wc))
            case first =>
             have H := HC55.out
             clear HC55
             by_cases c60 : (t458.length : Int) = (wrap64 ((x5_1.length : Int) + 1))
             ·rw [if_pos c60] at H
              have c60b0 : ((t458.length : Int) == (wrap64 ((x5_1.length : Int) + 1))) = true := beq_iff_eq.mpr c60
              have c60b1 : ((t458.length : Int) != (wrap64 ((x5_1.length : Int) + 1))) = false := bne_eq_false_iff_eq.mpr c60
              clear c60
              (first | rw [c60b0] | (simp only [i64_w, i32_w]; rw [c60b0]) | skip)
              by_cases c61 : (t461.length : Int) = (t458.length : Int)
              ·rw [if_pos c61] at H
               have c61b0 : ((t461.length : Int) == (t458.length : Int)) = true := beq_iff_eq.mpr c61
               have c61b1 : ((t461.length : Int) != (t458.length : Int)) = false := bne_eq_false_iff_eq.mpr c61
               have c61b2 : (t461.length == t458.length) = true := by first | simpa using c61 | (simp at c61 ⊢; omega)
               clear c61
               by_cases c62 : 0 ≤ (x5_1.length : Int)
               ·rw [if_pos c62] at H
                have c62b0 : decide (0 ≤ (x5_1.length : Int)) = true := decide_eq_true c62
                have c62b1 : decide (0 ≤ x5_1.length) = true := decide_eq_true (by omega)
                clear c62
                by_cases c63 : (x5_1.length : Int) < (t458.length : Int)
                ·rw [if_pos c63] at H
                 have c63b0 : decide ((x5_1.length : Int) < (t458.length : Int)) = true := decide_eq_true c63
                 have c63b1 : decide (x5_1.length < t458.length) = true := decide_eq_true (Int.ofNat_lt.mp c63)
                 clear c63
                 have H' := Aside0.mk H
                 clear H
                 try go_wp2
                 have n0_ := Aside0.mk (Kd.R_drew HO_5.out)
                 have n1_ := Aside0.mk (Kd.R_drew HO_41.out)
                 have n2_ := Aside0.mk (Kd.R_drew HO457.out)
                 have n3_ := Aside0.mk (Kd.R_drew HO460.out)
                 have n4_ := Aside0.mk (Kd.R_drew HO463.out)
                 have n5_ := Aside0.mk (blk_drew BK424.out)
                 have n6_ := Aside0.mk (below_drew1 HB.out)
                 clear HO_5
                 clear HO_41
                 clear HO457
                 clear HO460
                 clear HO463
                 clear BK424
                 clear HB
                 have HO_5 := n0_
                 have HO_41 := n1_
                 have HO457 := n2_
                 have HO460 := n3_
                 have HO463 := n4_
                 have BK424 := n5_
                 have HB := n6_
                 clear n0_ n1_ n2_ n3_ n4_ n5_ n6_
                 obtain ⟨Ao65, co65, eo65⟩ := Kd.R_slice HO460.out
                 (first | subst eo65 | (injection eo65 with f1_ f2_ f3_; have f4_ := f1_.symm; have f5_ := f3_.symm; clear f1_ f2_ f3_; subst f4_; subst f5_))
                 obtain ⟨Ao66, co66, eo66⟩ := Kd.R_slice HO463.out
                 (first | subst eo66 | (injection eo66 with f1_ f2_ f3_; have f4_ := f1_.symm; have f5_ := f3_.symm; clear f1_ f2_ f3_; subst f4_; subst f5_))
                 have p464 : 0 ≤ ((x5_1.length : Int) : Int) := of_decide_eq_true (by first | (with_reducible assumption) | assumption)
                 have q464 : (x5_1.length : Int) < (t458.length : Int) := of_decide_eq_true (by first | (with_reducible assumption) | assumption)
                 obtain ⟨ad464, e464, hx464_0⟩ := Kd.at_bool (Kd.R_reads' HO460.out).2.2 (x5_1.length : Int) p464 q464
                 (try rw [Int.toNat_natCast] at hx464_0)
                 cases e464
                 (try simp only [Go.IntWalk.toNatUp] at hx464_0)
                 replace p464 := eq_true p464
                 replace q464 := eq_true q464
                 refine start_ (n := 24) (S := fun w' => w'.cell? ⟨gb424, 0, none⟩ = some (.int .i64 a1_0) ∧ w'.cell? ⟨gb424, 1, none⟩ = some (.int .i64 a1_1) ∧ w'.cell? ⟨gb424, 2, none⟩ = some (.int .i64 a1_2) ∧ w'.cell? ⟨gb424, 3, none⟩ = some (.int .i64 a1_3) ∧ w'.cell? ⟨gb424, 4, none⟩ = some (.int .i64 a1_4) ∧ w'.cell? ⟨gb424, 5, none⟩ = some (.int .i64 a1_5) ∧ w'.cell? (ad464.add x5_1.length) = some (.bool (rdOf false t458 (x5_1.length : Int)))) (ds := []) (Ya 24 0) (by kernel_rfl) rfl rfl ⟨(blk_cell BK424.out 0).trans rfl, (blk_cell BK424.out 1).trans rfl, (blk_cell BK424.out 2).trans rfl, (blk_cell BK424.out 3).trans rfl, (blk_cell BK424.out 4).trans rfl, (blk_cell BK424.out 5).trans rfl, hx464_0⟩ (fun hHeld => ?_); refine with_tabW laws_FnBatch.tab20 laws_FnBatch.bits20 (fun HT_ HW_ => ?_)
                 generalize w59.drew = w64 at HO_5 HO_41 HO457 HO460 HO463 BK424 HB hx464_0 hHeld ⊢
                 refine pure_ (i := 0) (N := some 64) (v := ?_) (a' := ?_) (Ya 24 1) rfl rfl (any_of HT_.out (by kernel_rfl)) (fun _ _ _ h => h) (Or.inl ⟨by rfl, ?_⟩) ?_ ?_
                 rotate_left
                 ·intro w'
                  go_simp
                  with_reducible rfl
                 rotate_left
                 ·simp only [Act.put, List.setIfInBounds_toArray, List.set_cons_zero, List.set_cons_succ, i64_w, i32_w]
                  rfl
                 refine pure_ (i := 1) (N := some 65) (v := ?_) (a' := ?_) (Ya 24 3) rfl rfl (any_of HT_.out (by kernel_rfl)) (fun _ _ _ h => h) (Or.inl ⟨by rfl, ?_⟩) ?_ ?_
                 rotate_left
                 ·intro w'
                  go_simp
                  with_reducible rfl
                 rotate_left
                 ·simp only [Act.put, List.setIfInBounds_toArray, List.set_cons_zero, List.set_cons_succ, i64_w, i32_w]
                  rfl
                 refine pure_ (i := 2) (N := some 66) (v := ?_) (a' := ?_) (Ya 24 7) rfl rfl (any_of HT_.out (by kernel_rfl)) (fun _ _ _ h => h) (Or.inl ⟨by rfl, ?_⟩) ?_ ?_
                 rotate_left
                 ·intro w'
                  go_simp
                  with_reducible rfl
                 rotate_left
                 ·simp only [Act.put, List.setIfInBounds_toArray, List.set_cons_zero, List.set_cons_succ, i64_w, i32_w]
                  rfl
                 refine pure_ (i := 3) (N := some 67) (v := ?_) (a' := ?_) (Ya 24 15) rfl rfl (any_of HT_.out (by kernel_rfl)) (fun _ _ _ h => h) (Or.inl ⟨by rfl, ?_⟩) ?_ ?_
                 rotate_left
                 ·intro w'
                  go_simp
                  with_reducible rfl
                 rotate_left
                 ·simp only [Act.put, List.setIfInBounds_toArray, List.set_cons_zero, List.set_cons_succ, i64_w, i32_w]
                  rfl
                 refine pure_ (i := 4) (N := some 68) (v := ?_) (a' := ?_) (Ya 24 31) rfl rfl (any_of HT_.out (by kernel_rfl)) (fun _ _ _ h => h) (Or.inl ⟨by rfl, ?_⟩) ?_ ?_
                 rotate_left
                 ·intro w'
                  go_simp
                  with_reducible rfl
                 rotate_left
                 ·simp only [Act.put, List.setIfInBounds_toArray, List.set_cons_zero, List.set_cons_succ, i64_w, i32_w]
                  rfl
                 refine pure_ (i := 5) (N := some 69) (v := ?_) (a' := ?_) (Ya 24 63) rfl rfl (any_of HT_.out (by kernel_rfl)) (fun _ _ _ h => h) (Or.inl ⟨by rfl, ?_⟩) ?_ ?_
                 rotate_left
                 ·intro w'
                  go_simp
                  with_reducible rfl
                 rotate_left
                 ·simp only [Act.put, List.setIfInBounds_toArray, List.set_cons_zero, List.set_cons_succ, i64_w, i32_w]
                  rfl
                 refine pure_ (i := 6) (N := some 70) (v := ?_) (a' := ?_) (Ya 24 127) rfl rfl (any_of HT_.out (by kernel_rfl)) (fun _ _ _ h => h) (Or.inl ⟨by rfl, ?_⟩) ?_ ?_
                 rotate_left
                 ·intro w'
                  go_simp
                  with_reducible rfl
                 rotate_left
                 ·simp only [Act.put, List.setIfInBounds_toArray, List.set_cons_zero, List.set_cons_succ, i64_w, i32_w]
                  rfl
                 refine pure_ (i := 7) (N := some 71) (v := ?_) (a' := ?_) (Ya 24 255) rfl rfl (any_of HT_.out (by kernel_rfl)) (fun _ _ _ h => h) (Or.inl ⟨by rfl, ?_⟩) ?_ ?_
                 rotate_left
                 ·intro w'
                  go_simp
                  with_reducible rfl
                 rotate_left
                 ·simp only [Act.put, List.setIfInBounds_toArray, List.set_cons_zero, List.set_cons_succ, i64_w, i32_w]
                  rfl
                 refine pure_ (i := 8) (N := some 72) (v := ?_) (a' := ?_) (Ya 24 511) rfl rfl (any_of HT_.out (by kernel_rfl)) (fun _ _ _ h => h) (Or.inl ⟨by rfl, ?_⟩) ?_ ?_
                 rotate_left
                 ·intro w'
                  go_simp
                  with_reducible rfl
                 rotate_left
                 ·simp only [Act.put, List.setIfInBounds_toArray, List.set_cons_zero, List.set_cons_succ, i64_w, i32_w]
                  rfl
                 refine pure_ (i := 9) (N := some 73) (v := ?_) (a' := ?_) (Ya 24 1023) rfl rfl (any_of HT_.out (by kernel_rfl)) (fun _ _ _ h => h) (Or.inl ⟨by rfl, ?_⟩) ?_ ?_
                 rotate_left
                 ·intro w'
                  go_simp
                  with_reducible rfl
                 rotate_left
                 ·simp only [Act.put, List.setIfInBounds_toArray, List.set_cons_zero, List.set_cons_succ, i64_w, i32_w]
                  rfl
                 refine pure_ (i := 10) (N := some 74) (v := ?_) (a' := ?_) (Ya 24 2047) rfl rfl (any_of HT_.out (by kernel_rfl)) (fun _ _ _ h => h) (Or.inl ⟨by rfl, ?_⟩) ?_ ?_
                 rotate_left
                 ·intro w'
                  go_simp
                  with_reducible rfl
                 rotate_left
                 ·simp only [Act.put, List.setIfInBounds_toArray, List.set_cons_zero, List.set_cons_succ, i64_w, i32_w]
                  rfl
                 refine pure_ (i := 11) (N := some 75) (v := ?_) (a' := ?_) (Ya 24 4095) rfl rfl (any_of HT_.out (by kernel_rfl)) (fun _ _ _ h => h) (Or.inl ⟨by rfl, ?_⟩) ?_ ?_
                 rotate_left
                 ·intro w'
                  go_simp
                  with_reducible rfl
                 rotate_left
                 ·simp only [Act.put, List.setIfInBounds_toArray, List.set_cons_zero, List.set_cons_succ, i64_w, i32_w]
                  rfl
                 refine pure_ (i := 12) (N := some 76) (v := ?_) (a' := ?_) (Ya 24 8191) rfl rfl (any_of HT_.out (by kernel_rfl)) (fun _ _ _ h => h) (Or.inl ⟨by rfl, ?_⟩) ?_ ?_
                 rotate_left
                 ·intro w'
                  go_simp
                  with_reducible rfl
                 rotate_left
                 ·simp only [Act.put, List.setIfInBounds_toArray, List.set_cons_zero, List.set_cons_succ, i64_w, i32_w]
                  rfl
                 refine pure_ (i := 13) (N := some 77) (v := ?_) (a' := ?_) (Ya 24 16383) rfl rfl (any_of HT_.out (by kernel_rfl)) (fun _ _ _ h => h) (Or.inl ⟨by rfl, ?_⟩) ?_ ?_
                 rotate_left
                 ·intro w'
                  go_simp
                  with_reducible rfl
                 rotate_left
                 ·simp only [Act.put, List.setIfInBounds_toArray, List.set_cons_zero, List.set_cons_succ, i64_w, i32_w]
                  rfl
                 refine pure_ (i := 14) (N := some 78) (v := ?_) (a' := ?_) (Ya 24 32767) rfl rfl (any_of HT_.out (by kernel_rfl)) (fun _ _ _ h => h) (Or.inl ⟨by rfl, ?_⟩) ?_ ?_
                 rotate_left
                 ·intro w'
                  go_simp
                  with_reducible rfl
                 rotate_left
                 ·simp only [Act.put, List.setIfInBounds_toArray, List.set_cons_zero, List.set_cons_succ, i64_w, i32_w]
                  rfl
                 refine pure_ (i := 15) (N := some 79) (v := ?_) (a' := ?_) (Ya 24 65535) rfl rfl (any_of HT_.out (by kernel_rfl)) (fun _ _ _ h => h) (Or.inl ⟨by rfl, ?_⟩) ?_ ?_
                 rotate_left
                 ·intro w'
                  go_simp
                  with_reducible rfl
                 rotate_left
                 ·simp only [Act.put, List.setIfInBounds_toArray, List.set_cons_zero, List.set_cons_succ, i64_w, i32_w]
                  rfl
                 refine pure_ (i := 16) (N := some 80) (v := ?_) (a' := ?_) (Ya 24 131071) rfl rfl (any_of HT_.out (by kernel_rfl)) (fun _ _ _ h => h) (Or.inl ⟨by rfl, ?_⟩) ?_ ?_
                 rotate_left
                 ·intro w'
                  go_simp
                  with_reducible rfl
                 rotate_left
                 ·simp only [Act.put, List.setIfInBounds_toArray, List.set_cons_zero, List.set_cons_succ, i64_w, i32_w]
                  rfl
                 refine pure_ (i := 17) (N := some 81) (v := ?_) (a' := ?_) (Ya 24 262143) rfl rfl (any_of HT_.out (by kernel_rfl)) (fun _ _ _ h => h) (Or.inl ⟨by rfl, ?_⟩) ?_ ?_
                 rotate_left
                 ·intro w'
                  go_simp
                  with_reducible rfl
                 rotate_left
                 ·simp only [Act.put, List.setIfInBounds_toArray, List.set_cons_zero, List.set_cons_succ, i64_w, i32_w]
                  rfl
                 refine pure_ (i := 19) (N := some 83) (v := ?_) (a' := ?_) (Ya 24 786431) rfl rfl (any_of HT_.out (by kernel_rfl)) (fun _ _ _ h => h) (Or.inl ⟨by rfl, ?_⟩) ?_ ?_
                 rotate_left
                 ·intro w'
                  go_simp
                  with_reducible rfl
                 rotate_left
                 ·simp only [Act.put, List.setIfInBounds_toArray, List.set_cons_zero, List.set_cons_succ, i64_w, i32_w]
                  rfl
                 refine take_ (i := 18) (N := some 82) (v := ?_) (a' := ?_) (Ya 24 1048575) rfl rfl (take_ofW HT_.out HW_.out (by kernel_rfl)) (fun _ _ _ h => h) (Or.inl ⟨by rfl, ?_⟩) hHeld ?_ ?_
                 rotate_left
                 ·rintro w' ⟨s0, s1, s2, s3, s4, s5, s6⟩
                  go_simp
                  with_reducible rfl
                 rotate_left
                 ·simp only [Act.put, List.setIfInBounds_toArray, List.set_cons_zero, List.set_cons_succ, i64_w, i32_w]
                  rfl
                 refine take_ (i := 20) (N := some 84) (v := ?_) (a' := ?_) (Ya 24 2097151) rfl rfl (take_ofW HT_.out HW_.out (by kernel_rfl)) (fun _ _ _ h => h) (Or.inl ⟨by rfl, ?_⟩) hHeld ?_ ?_
                 rotate_left
                 ·rintro w' ⟨s0, s1, s2, s3, s4, s5, s6⟩
                  go_simp
                  with_reducible rfl
                 rotate_left
                 ·simp only [Act.put, List.setIfInBounds_toArray, List.set_cons_zero, List.set_cons_succ, i64_w, i32_w]
                  rfl
                 refine pure_ (i := 21) (N := some 85) (v := ?_) (a' := ?_) (Ya 24 4194303) rfl rfl (any_of HT_.out (by kernel_rfl)) (fun _ _ _ h => h) (Or.inl ⟨by rfl, ?_⟩) ?_ ?_
                 rotate_left
                 ·intro w'
                  go_simp
                  with_reducible rfl
                 rotate_left
                 ·simp only [Act.put, List.setIfInBounds_toArray, List.set_cons_zero, List.set_cons_succ, i64_w, i32_w]
                  rfl
                 refine pure_ (i := 22) (N := some 86) (v := ?_) (a' := ?_) (Ya 24 8388607) rfl rfl (any_of HT_.out (by kernel_rfl)) (fun _ _ _ h => h) (Or.inl ⟨by rfl, ?_⟩) ?_ ?_
                 rotate_left
                 ·intro w'
                  go_simp
                  with_reducible rfl
                 rotate_left
                 ·simp only [Act.put, List.setIfInBounds_toArray, List.set_cons_zero, List.set_cons_succ, i64_w, i32_w]
                  rfl
                 refine pure_ (i := 23) (N := some 87) (v := ?_) (a' := ?_) (Ya 24 16777215) rfl rfl (any_of HT_.out (by kernel_rfl)) (fun _ _ _ h => h) (Or.inl ⟨by rfl, ?_⟩) ?_ ?_
                 rotate_left
                 ·intro w'
                  go_simp
                  with_reducible rfl
                 rotate_left
                 ·simp only [Act.put, List.setIfInBounds_toArray, List.set_cons_zero, List.set_cons_succ, i64_w, i32_w]
                  rfl
                 refine done_ (done_of HT_.out (by kernel_rfl)) ?_
                 try go_wp2
                 go_meet
                 case rel => exact ⟨_, (((rdOf false t458 (x5_1.length : Int)) != (a1_5 == 0))), (by first | rfl | (simp; done) | (simp [*]; done)), H', ⟨by have := HK1.out; have := HJ19.out; have := HK3.out; first | omega | exact Nat.le_refl _⟩, ⟨by (with_reducible repeat (first | apply Kd.R_alloc | apply Kd.R_drewN | apply Kd.R_drew)); exact HO_5.out⟩, ⟨by (with_reducible repeat (first | apply Kd.R_alloc | apply Kd.R_drewN | apply Kd.R_drew)); exact HO460.out⟩, ⟨by (with_reducible repeat (first | apply Kd.R_alloc | apply Kd.R_drewN | apply Kd.R_drew)); exact HO463.out⟩, ⟨by (with_reducible repeat (first | refine blk_drewN ?_ _ | refine blk_drew ?_ | refine blk_alloc ?_ _)); exact BK424.out⟩, ⟨by repeat (first | (with_reducible first | exact HB.out | apply below_alloc | apply pw_below_drewN | apply below_drew1 | refine below_set ?_ GE424.out) | exact HB.out)⟩⟩
                ·rw [if_neg c63] at H
                 exact absurd H (by simp)
               ·rw [if_neg c62] at H
                exact absurd H (by simp)
              ·rw [if_neg c61] at H
               exact absurd ((laws_FnBatch.j3t H).trans (congrArg some hr_.out)) (by simp)
             ·rw [if_neg c60] at H
              exact absurd ((laws_FnBatch.j3t H).trans (congrArg some hr_.out)) (by simp)
            case rest =>
             clear HC55
             obtain ⟨kq, x87_54, rfl, HA, HJ54, HO_5, HO_11, HO_12, BK424, HB⟩ := hcut
             cases kq with
             | zero => exact absurd HA.out (by simp [laws_FnBatch.j3])
             | succ kj54 =>
              have H := HA.out
              clear HA
              simp only [laws_FnBatch.j3] at H
              by_cases c72 : x87_54 = true
              ·subst c72
               have H1 : (some false) = some r := by rw [if_pos rfl] at H; exact H
               exact absurd (H1.trans (congrArg some hr_.out)) (by simp)
              ·replace c72 := Bool.eq_false_iff.mpr c72
               subst c72
               have H1 : (laws_FnBatch.l2 kj54 t458 t461 x5_1 (x5_1.length : Int) 0 a1_0 a1_1 a1_2 a1_3 a1_4 a1_5) = some r := by rw [if_neg (show ¬ (false = true) by decide)] at H; exact H
               clear H
               have H := H1
               clear H1
               have H' := Aside0.mk H
               clear H
               go_wp2
               go_loopg [90] kj54 (fun kq v90 w' => ∃ (x90_5 : Int), v90 = .int .i64 x90_5 ∧ Aside0 (laws_FnBatch.l2 kq t458 t461 x5_1 (x5_1.length : Int) x90_5 a1_0 a1_1 a1_2 a1_3 a1_4 a1_5 = some r) ∧ Aside0 (kq ≤ kj54) ∧ Aside0 (Kd.R Kd.bool 4 w' w.heap.size (fun k_ => some k_ ≠ (v462 : Value).ownBlock) v459 t458) ∧ Aside0 (Kd.R Kd.bool 4 w' w.heap.size (fun k_ => some k_ ≠ (v459 : Value).ownBlock) v462 t461) ∧ Aside0 (Kd.R k30 30 w' w.heap.size (fun _ => True) (.slice Ao34 x5_1.length co34) x5_1) ∧ Aside0 (w'.heap[gb424]? = some (.cells #[.int .i64 a1_0, .int .i64 a1_1, .int .i64 a1_2, .int .i64 a1_3, .int .i64 a1_4, .int .i64 a1_5] 26 (0, 0))) ∧ Aside0 (Below w.heap.size w w'))
               case atStart => exact ⟨(0), (by first | rfl | (simp; done) | (simp [*]; done)), H', ⟨Nat.le_refl _⟩, ⟨by (with_reducible repeat (first | apply Kd.R_alloc | apply Kd.R_drewN | apply Kd.R_drew)); exact HO_11.out⟩, ⟨by (with_reducible repeat (first | apply Kd.R_alloc | apply Kd.R_drewN | apply Kd.R_drew)); exact HO_12.out⟩, ⟨by (with_reducible repeat (first | apply Kd.R_alloc | apply Kd.R_drewN | apply Kd.R_drew)); exact HO_5.out⟩, ⟨by (with_reducible repeat (first | refine blk_drewN ?_ _ | refine blk_drew ?_ | refine blk_alloc ?_ _)); exact BK424.out⟩, ⟨by repeat (first | (with_reducible first | exact HB.out | apply below_alloc | apply pw_below_drewN | apply below_drew1 | refine below_set ?_ GE424.out) | exact HB.out)⟩⟩
               case round =>
                clear H'
                obtain ⟨x90_5, rfl, HA, HK5, HO_11, HO_12, HO_88, BK424, HB⟩ := hrel
                cases gk with
                | zero => exact absurd HA.out (by simp [laws_FnBatch.l2])
                | succ k5 =>
                 have H := HA.out
                 clear HA
                 simp only [laws_FnBatch.l2] at H
                 by_cases c73 : x90_5 < (x5_1.length : Int)
                 ·rw [if_pos c73] at H
                  have c73b0 : decide (x90_5 < (x5_1.length : Int)) = true := decide_eq_true c73
                  clear c73
                  by_cases c74 : 0 ≤ x90_5
                  ·rw [if_pos c74] at H
                   have c74b0 : decide (0 ≤ x90_5) = true := decide_eq_true c74
                   clear c74
                   by_cases c75 : x90_5 < (x5_1.length : Int)
                   ·rw [if_pos c75] at H
                    have c75b0 : decide (x90_5 < (x5_1.length : Int)) = true := decide_eq_true c75
                    clear c75
                    by_cases c76 : x90_5 < (t461.length : Int)
                    ·rw [if_pos c76] at H
                     have c76b0 : decide (x90_5 < (t461.length : Int)) = true := decide_eq_true c76
                     clear c76
                     obtain ⟨bq77, hbq77⟩ : ∃ b_ : Bool, b_ = (rdOf false t461 x90_5) := ⟨_, rfl⟩
                     replace H : (if bq77 = true then (if x90_5 < (t458.length : Int) then ((laws_moment.f a1_0 a1_1 a1_2 a1_3 a1_4 a1_5).bind fun bt469 => ((spec_Fits.f k5 ((rd_T30 x5_1 x90_5).f0) ((rd_T30 x5_1 x90_5).f1) bt469.1 bt469.2.1 bt469.2.2.1 bt469.2.2.2.1 bt469.2.2.2.2.1 bt469.2.2.2.2.2).bind fun t475 => (if ((rdOf false t458 x90_5) != t475) = true then (some false) else (laws_FnBatch.l2 k5 t458 t461 x5_1 (x5_1.length : Int) (wrap64 (x90_5 + 1)) a1_0 a1_1 a1_2 a1_3 a1_4 a1_5)))) else (none)) else (some false)) = some r := by rw [← hbq77] at H; exact H
                     have Nbq77 := Aside0.mk hbq77
                     clear hbq77
                     by_cases c78 : bq77 = true
                     ·subst c78
                      have H1 : (if x90_5 < (t458.length : Int) then ((laws_moment.f a1_0 a1_1 a1_2 a1_3 a1_4 a1_5).bind fun bt469 => ((spec_Fits.f k5 ((rd_T30 x5_1 x90_5).f0) ((rd_T30 x5_1 x90_5).f1) bt469.1 bt469.2.1 bt469.2.2.1 bt469.2.2.2.1 bt469.2.2.2.2.1 bt469.2.2.2.2.2).bind fun t475 => (if ((rdOf false t458 x90_5) != t475) = true then (some false) else (laws_FnBatch.l2 k5 t458 t461 x5_1 (x5_1.length : Int) (wrap64 (x90_5 + 1)) a1_0 a1_1 a1_2 a1_3 a1_4 a1_5)))) else (none)) = some r := by rw [if_pos rfl] at H; exact H
                      clear H
                      have H := H1
                      clear H1
                      by_cases c79 : x90_5 < (t458.length : Int)
                      ·rw [if_pos c79] at H
                       have c79b0 : decide (x90_5 < (t458.length : Int)) = true := decide_eq_true c79
                       clear c79
                       replace H := Option.bind_eq_some_iff.mp H
                       obtain ⟨⟨t469, t470, t471, t472, t473, t474⟩, A800, H⟩ := H
                       replace H : ((spec_Fits.f k5 ((rd_T30 x5_1 x90_5).f0) ((rd_T30 x5_1 x90_5).f1) t469 t470 t471 t472 t473 t474).bind fun t475 => (if ((rdOf false t458 x90_5) != t475) = true then (some false) else (laws_FnBatch.l2 k5 t458 t461 x5_1 (x5_1.length : Int) (wrap64 (x90_5 + 1)) a1_0 a1_1 a1_2 a1_3 a1_4 a1_5))) = some r := H
                       have A80 := Aside0.mk A800
                       clear A800
                       replace H := Option.bind_eq_some_iff.mp H
                       obtain ⟨t475, A810, H⟩ := H
                       replace H : (if ((rdOf false t458 x90_5) != t475) = true then (some false) else (laws_FnBatch.l2 k5 t458 t461 x5_1 (x5_1.length : Int) (wrap64 (x90_5 + 1)) a1_0 a1_1 a1_2 a1_3 a1_4 a1_5)) = some r := H
                       have A81 := Aside0.mk A810
                       clear A810
                       by_cases c82 : ((rdOf false t458 x90_5) != t475) = true
                       ·rw [if_pos c82] at H
                        exact absurd (H.trans (congrArg some hr_.out)) (by simp)
                       ·rw [if_neg c82] at H
                        have c82b0 : ((rdOf false t458 x90_5) != t475) = false := by simpa using c82
                        (try (have c82b1 : decide ((rdOf false t458 x90_5) = t475) = true := by simpa using c82))
                        (try (have c82b2 : ((rdOf false t458 x90_5) == t475) = true := by simpa using c82))
                        clear c82
                        have H' := Aside0.mk H
                        clear H
                        have p465 : 0 ≤ (x90_5 : Int) := of_decide_eq_true (by first | (with_reducible assumption) | assumption)
                        have q465 : x90_5 < (x5_1.length : Int) := of_decide_eq_true (by first | (with_reducible assumption) | assumption)
                        obtain ⟨ad465, A465_0, c465_0, e465, hx465_0, hx465_1, hl465_0, hi465_0⟩ := at_T30 (Kd.R_reads' HO_88.out).2.2 x90_5 p465 q465
                        (try rw [← Nbq77.out] at hx465_1)
                        cases e465
                        obtain ⟨ce465, hce465, hMe465, hcc465⟩ := Kd.R_get HO_88.out z30 x90_5 p465 (by first | exact q465 | exact of_decide_eq_true (by first | (with_reducible assumption) | assumption) | (have e_ := (Kd.R_reads' HO_88.out).1; omega))
                        obtain ⟨ve465_0, rfl, ge465_0⟩ := k30_openM hMe465
                        have hv465_0 := hcc465 0 _ rfl
                        rw [Nat.add_zero] at hv465_0
                        replace hv465_0 := Option.some.inj (hv465_0.symm.trans hx465_0)
                        rw [hv465_0] at ge465_0
                        have HL465_0 := Aside0.mk (show Kd.R (Kd.slice 38 k38) 36 _ _ _ _ ((rd_T30 x5_1 x90_5).f0) from ge465_0)
                        clear hv465_0 ge465_0
                        clear hcc465 hce465
                        have HR465_0 := Aside0.mk hi465_0
                        have HC465_0 := Aside0.mk hl465_0
                        clear hi465_0 hl465_0
                        replace p465 := eq_true p465
                        replace q465 := eq_true q465
                        try go_wp2_with (first | ((with_reducible refine gate_dst (N := 14) rfl ?_); (try (refine gate_guard (by rfl) ?_; dsimp only)); refine box_event ?hg (N := 14) ?hd (cs := #[.slice none 0 0, .bool false]) (t := 30) ?hr ?_; (case hd => rfl); (case hg => rfl); (case hr => first | (go_simp; done) | (go_simp; rfl)); intro gb466 hg w92 hbox hb; have n0_ := Aside0.mk (Kd.R_below (by (with_reducible repeat (first | apply Kd.R_alloc | apply Kd.R_drewN | apply Kd.R_drew)); exact HO_11.out) hb); have n1_ := Aside0.mk (Kd.R_below (by (with_reducible repeat (first | apply Kd.R_alloc | apply Kd.R_drewN | apply Kd.R_drew)); exact HO_12.out) hb); have n2_ := Aside0.mk (Kd.R_below (Kd.R_elderB (by (with_reducible repeat (first | apply Kd.R_alloc | apply Kd.R_drewN | apply Kd.R_drew)); exact HO_88.out) gb466 (Nat.le_of_eq hg.symm)) hb); have n3_ := Aside0.mk (Kd.R_below (by (with_reducible repeat (first | apply Kd.R_alloc | apply Kd.R_drewN | apply Kd.R_drew)); exact HL465_0.out) hb); have n4_ := Aside0.mk (blk_below (g := gb424) (o := .cells #[.int .i64 a1_0, .int .i64 a1_1, .int .i64 a1_2, .int .i64 a1_3, .int .i64 a1_4, .int .i64 a1_5] 26 (0, 0)) (by (with_reducible repeat (first | refine blk_drewN ?_ _ | refine blk_drew ?_ | refine blk_alloc ?_ _)); exact BK424.out) hb); have n5_ := Aside0.mk (Kd.C_below (by repeat (first | (with_reducible exact HR465_0.out) | (with_reducible refine Kd.C_alloc ?_ _) | (with_reducible refine Kd.C_drewN ?_ _) | (with_reducible refine Kd.C_drew ?_) | exact HR465_0.out)) hb); have n6_ := Aside0.mk (below_step (by repeat (first | (with_reducible first | exact HB.out | apply below_alloc | apply pw_below_drewN | apply below_drew1 | refine below_set ?_ GE424.out) | exact HB.out)) hb); have n7_ := Aside0.mk (hbox); have n8_ := Aside0.mk ((by rw [hg]; exact (below_size (by repeat (first | (with_reducible first | exact HB.out | apply below_alloc | apply pw_below_drewN | apply below_drew1 | refine below_set ?_ GE424.out) | exact HB.out))) : w.heap.size ≤ gb466)); have n9_ := Aside0.mk ((by rw [hg]; exact (below_size (by repeat (first | (with_reducible first | exact HB.out | apply below_alloc | apply pw_below_drewN | apply below_drew1 | refine below_set ?_ GE424.out) | exact HB.out))) : w.heap.size ≤ gb466)); have n10_ := Aside0.mk ((by rw [hg]; exact Nat.ne_of_lt (blk_lt (g := gb424) (o := .cells #[.int .i64 a1_0, .int .i64 a1_1, .int .i64 a1_2, .int .i64 a1_3, .int .i64 a1_4, .int .i64 a1_5] 26 (0, 0)) (by (with_reducible repeat (first | refine blk_drewN ?_ _ | refine blk_drew ?_ | refine blk_alloc ?_ _)); exact BK424.out)) : gb424 ≠ gb466)); have n11_ := Aside0.mk ((by rw [hg]; exact Nat.ne_of_gt (blk_lt (g := gb424) (o := .cells #[.int .i64 a1_0, .int .i64 a1_1, .int .i64 a1_2, .int .i64 a1_3, .int .i64 a1_4, .int .i64 a1_5] 26 (0, 0)) (by (with_reducible repeat (first | refine blk_drewN ?_ _ | refine blk_drew ?_ | refine blk_alloc ?_ _)); exact BK424.out)) : gb466 ≠ gb424)); clear HO_11; clear HO_12; clear HO_88; clear HL465_0; clear BK424; clear HR465_0; clear HB; have HO_11 := n0_; have HO_12 := n1_; have HO_88 := n2_; have HL465_0 := n3_; have BK424 := n4_; have HR465_0 := n5_; have HB := n6_; have BK466 := n7_; have GW466 := n8_; have GE466 := n9_; have NB424_466 := n10_; have NB466_424 := n11_; clear n0_ n1_ n2_ n3_ n4_ n5_ n6_ n7_ n8_ n9_ n10_ n11_; clear hb hbox hg; have hnb93 := NB466_424.out; have hnc93 := NB424_466.out; have hcz94_0 : w92.cell? ⟨gb466, 0, none⟩ = some (.slice none 0 0) := (blk_cell BK466.out 0).trans rfl; have hcz94_1 : w92.cell? ⟨gb466, 1, none⟩ = some (.bool false) := (blk_cell BK466.out 1).trans rfl; have hfz94_0 := blk_frozen BK466.out 0; have hfz94_1 := blk_frozen BK466.out 1))
                        have n0_ : Aside0 (Kd.R Kd.bool 4 ((w92.setCell ⟨gb466, 0, none⟩ (.slice A465_0 ((rd_T30 x5_1 x90_5).f0).length c465_0)).setCell ⟨gb466, 1, none⟩ (.bool ((rd_T30 x5_1 x90_5).f1))) w.heap.size (fun k_ => some k_ ≠ (v462 : Value).ownBlock) v459 t458) := ⟨by (with_reducible repeat (first | apply Kd.R_alloc | apply Kd.R_drewN | apply Kd.R_drew)); exact Kd.R_mono (Kd.R_far (p := ⟨gb466, 1, none⟩) (Kd.R_far (p := ⟨gb466, 0, none⟩) (Kd.R_types HO_11.out BK466.out (by decide)) (fun _ hk => hk.2) (.slice A465_0 ((rd_T30 x5_1 x90_5).f0).length c465_0)) (fun _ hk => hk.2) (.bool ((rd_T30 x5_1 x90_5).f1))) (fun _ hk => hk.1)⟩
                        have n1_ : Aside0 (Kd.R Kd.bool 4 ((w92.setCell ⟨gb466, 0, none⟩ (.slice A465_0 ((rd_T30 x5_1 x90_5).f0).length c465_0)).setCell ⟨gb466, 1, none⟩ (.bool ((rd_T30 x5_1 x90_5).f1))) w.heap.size (fun k_ => some k_ ≠ (v459 : Value).ownBlock) v462 t461) := ⟨by (with_reducible repeat (first | apply Kd.R_alloc | apply Kd.R_drewN | apply Kd.R_drew)); exact Kd.R_mono (Kd.R_far (p := ⟨gb466, 1, none⟩) (Kd.R_far (p := ⟨gb466, 0, none⟩) (Kd.R_types HO_12.out BK466.out (by decide)) (fun _ hk => hk.2) (.slice A465_0 ((rd_T30 x5_1 x90_5).f0).length c465_0)) (fun _ hk => hk.2) (.bool ((rd_T30 x5_1 x90_5).f1))) (fun _ hk => hk.1)⟩
                        have n2_ : Aside0 (Kd.R k30 30 ((w92.setCell ⟨gb466, 0, none⟩ (.slice A465_0 ((rd_T30 x5_1 x90_5).f0).length c465_0)).setCell ⟨gb466, 1, none⟩ (.bool ((rd_T30 x5_1 x90_5).f1))) w.heap.size (fun k_ => k_ ≠ gb466) (.slice (some ad465) x5_1.length co34) x5_1) := ⟨by (with_reducible repeat (first | apply Kd.R_alloc | apply Kd.R_drewN | apply Kd.R_drew)); exact Kd.R_mono (Kd.R_far (p := ⟨gb466, 1, none⟩) (Kd.R_far (p := ⟨gb466, 0, none⟩) (Kd.R_mono HO_88.out (fun k_ hk => (⟨hk, hk.2⟩ : _ ∧ k_ ≠ gb466))) (fun _ hk => hk.2) (.slice A465_0 ((rd_T30 x5_1 x90_5).f0).length c465_0)) (fun _ hk => hk.2) (.bool ((rd_T30 x5_1 x90_5).f1))) (fun _ hk => hk.1.2)⟩
                        have n3_ : Aside0 (Kd.R (Kd.slice 38 k38) 36 ((w92.setCell ⟨gb466, 0, none⟩ (.slice A465_0 ((rd_T30 x5_1 x90_5).f0).length c465_0)).setCell ⟨gb466, 1, none⟩ (.bool ((rd_T30 x5_1 x90_5).f1))) w.heap.size (fun k_ => some k_ ≠ (.slice (some ad465) x5_1.length co34 : Value).ownBlock) (.slice A465_0 ((rd_T30 x5_1 x90_5).f0).length c465_0) ((rd_T30 x5_1 x90_5).f0)) := ⟨by (with_reducible repeat (first | apply Kd.R_alloc | apply Kd.R_drewN | apply Kd.R_drew)); exact Kd.R_mono (Kd.R_far (p := ⟨gb466, 1, none⟩) (Kd.R_far (p := ⟨gb466, 0, none⟩) (Kd.R_types HL465_0.out BK466.out (by decide)) (fun _ hk => hk.2) (.slice A465_0 ((rd_T30 x5_1 x90_5).f0).length c465_0)) (fun _ hk => hk.2) (.bool ((rd_T30 x5_1 x90_5).f1))) (fun _ hk => hk.1.2)⟩
                        have n4_ : Aside0 (((w92.setCell ⟨gb466, 0, none⟩ (.slice A465_0 ((rd_T30 x5_1 x90_5).f0).length c465_0)).setCell ⟨gb466, 1, none⟩ (.bool ((rd_T30 x5_1 x90_5).f1))).heap[gb424]? = some (.cells #[.int .i64 a1_0, .int .i64 a1_1, .int .i64 a1_2, .int .i64 a1_3, .int .i64 a1_4, .int .i64 a1_5] 26 (0, 0))) := ⟨by (with_reducible repeat (first | refine blk_drewN ?_ _ | refine blk_drew ?_ | refine blk_alloc ?_ _)); refine blk_far ?_ NB424_466.out _; (with_reducible repeat (first | refine blk_drewN ?_ _ | refine blk_drew ?_ | refine blk_alloc ?_ _)); refine blk_far ?_ NB424_466.out _; (with_reducible repeat (first | refine blk_drewN ?_ _ | refine blk_drew ?_ | refine blk_alloc ?_ _)); exact BK424.out⟩
                        have n5_ : Aside0 (((w92.setCell ⟨gb466, 0, none⟩ (.slice A465_0 ((rd_T30 x5_1 x90_5).f0).length c465_0)).setCell ⟨gb466, 1, none⟩ (.bool ((rd_T30 x5_1 x90_5).f1))).heap[gb466]? = some (.cells #[.slice A465_0 ((rd_T30 x5_1 x90_5).f0).length c465_0, .bool ((rd_T30 x5_1 x90_5).f1)] 30 (0, 0))) := ⟨by (with_reducible repeat (first | refine blk_drewN ?_ _ | refine blk_drew ?_ | refine blk_alloc ?_ _)); refine blk_put (cs := #[.slice A465_0 ((rd_T30 x5_1 x90_5).f0).length c465_0, .bool false]) ?_ 1 _ rfl; (with_reducible repeat (first | refine blk_drewN ?_ _ | refine blk_drew ?_ | refine blk_alloc ?_ _)); refine blk_put (cs := #[.slice none 0 0, .bool false]) ?_ 0 _ rfl; (with_reducible repeat (first | refine blk_drewN ?_ _ | refine blk_drew ?_ | refine blk_alloc ?_ _)); exact BK466.out⟩
                        have n6_ : Aside0 (Below w.heap.size w ((w92.setCell ⟨gb466, 0, none⟩ (.slice A465_0 ((rd_T30 x5_1 x90_5).f0).length c465_0)).setCell ⟨gb466, 1, none⟩ (.bool ((rd_T30 x5_1 x90_5).f1)))) := ⟨by repeat (first | (with_reducible first | exact HB.out | apply below_alloc | apply pw_below_drewN | apply below_drew1 | refine below_set ?_ GE424.out | refine below_set ?_ GE466.out) | exact HB.out)⟩
                        (try clear HO_11)
                        (try clear HO_12)
                        (try clear HO_88)
                        (try clear HL465_0)
                        (try clear BK424)
                        (try clear BK466)
                        (try clear HB)
                        generalize ((w92.setCell ⟨gb466, 0, none⟩ (.slice A465_0 ((rd_T30 x5_1 x90_5).f0).length c465_0)).setCell ⟨gb466, 1, none⟩ (.bool ((rd_T30 x5_1 x90_5).f1))) = w95 at n0_ n1_ n2_ n3_ n4_ n5_ n6_ ⊢
                        have HO_11 := n0_
                        have HO_12 := n1_
                        have HO_88 := n2_
                        have HL465_0 := n3_
                        have BK424 := n4_
                        have BK466 := n5_
                        have HB := n6_
                        clear n0_ n1_ n2_ n3_ n4_ n5_ n6_
                        have n0_ := Aside0.mk (Kd.R_drew HO_11.out)
                        have n1_ := Aside0.mk (Kd.R_drew HO_12.out)
                        have n2_ := Aside0.mk (Kd.R_drew HO_88.out)
                        have n3_ := Aside0.mk (Kd.R_drew HL465_0.out)
                        have n4_ := Aside0.mk (blk_drew BK424.out)
                        have n5_ := Aside0.mk (blk_drew BK466.out)
                        have n6_ := Aside0.mk (below_drew1 HB.out)
                        clear HO_11
                        clear HO_12
                        clear HO_88
                        clear HL465_0
                        clear BK424
                        clear BK466
                        clear HB
                        have HO_11 := n0_
                        have HO_12 := n1_
                        have HO_88 := n2_
                        have HL465_0 := n3_
                        have BK424 := n4_
                        have BK466 := n5_
                        have HB := n6_
                        clear n0_ n1_ n2_ n3_ n4_ n5_ n6_
                        obtain ⟨Ao97, co97, eo97⟩ := Kd.R_slice HO_12.out
                        (first | subst eo97 | (injection eo97 with f1_ f2_ f3_; have f4_ := f1_.symm; have f5_ := f3_.symm; clear f1_ f2_ f3_; subst f4_; subst f5_))
                        have p467 : 0 ≤ (x90_5 : Int) := of_decide_eq_true (by first | (with_reducible assumption) | assumption)
                        have q467 : x90_5 < (t461.length : Int) := of_decide_eq_true (by first | (with_reducible assumption) | assumption)
                        obtain ⟨ad467, e467, hx467_0⟩ := Kd.at_bool (Kd.R_reads' HO_12.out).2.2 x90_5 p467 q467
                        (try rw [← Nbq77.out] at hx467_0)
                        cases e467
                        replace p467 := eq_true p467
                        replace q467 := eq_true q467
                        obtain ⟨Ao98, co98, eo98⟩ := Kd.R_slice HO_11.out
                        (first | subst eo98 | (injection eo98 with f1_ f2_ f3_; have f4_ := f1_.symm; have f5_ := f3_.symm; clear f1_ f2_ f3_; subst f4_; subst f5_))
                        have p468 : 0 ≤ (x90_5 : Int) := of_decide_eq_true (by first | (with_reducible assumption) | assumption)
                        have q468 : x90_5 < (t458.length : Int) := of_decide_eq_true (by first | (with_reducible assumption) | assumption)
                        obtain ⟨ad468, e468, hx468_0⟩ := Kd.at_bool (Kd.R_reads' HO_11.out).2.2 x90_5 p468 q468
                        (try rw [← Nbq77.out] at hx468_0)
                        cases e468
                        replace p468 := eq_true p468
                        replace q468 := eq_true q468
                        refine start_ (n := 16) (S := fun w' => w'.cell? ⟨gb466, 0, none⟩ = some (.slice A465_0 ((rd_T30 x5_1 x90_5).f0).length c465_0) ∧ w'.cell? ⟨gb466, 1, none⟩ = some (.bool ((rd_T30 x5_1 x90_5).f1)) ∧ w'.cell? ⟨gb424, 0, none⟩ = some (.int .i64 a1_0) ∧ w'.cell? ⟨gb424, 1, none⟩ = some (.int .i64 a1_1) ∧ w'.cell? ⟨gb424, 2, none⟩ = some (.int .i64 a1_2) ∧ w'.cell? ⟨gb424, 3, none⟩ = some (.int .i64 a1_3) ∧ w'.cell? ⟨gb424, 4, none⟩ = some (.int .i64 a1_4) ∧ w'.cell? ⟨gb424, 5, none⟩ = some (.int .i64 a1_5) ∧ w'.cell? (ad467.add (x90_5).toNat) = some (.bool true) ∧ w'.cell? (ad468.add (x90_5).toNat) = some (.bool (rdOf false t458 x90_5))) (ds := []) (Ya 16 0) (by kernel_rfl) rfl rfl ⟨(blk_cell BK466.out 0).trans rfl, (blk_cell BK466.out 1).trans rfl, (blk_cell BK424.out 0).trans rfl, (blk_cell BK424.out 1).trans rfl, (blk_cell BK424.out 2).trans rfl, (blk_cell BK424.out 3).trans rfl, (blk_cell BK424.out 4).trans rfl, (blk_cell BK424.out 5).trans rfl, hx467_0, hx468_0⟩ (fun hHeld => ?_); refine with_tabW laws_FnBatch.tab25 laws_FnBatch.bits25 (fun HT_ HW_ => ?_)
                        generalize w95.drew = w96 at HO_11 HO_12 HO_88 HL465_0 BK424 BK466 HB hx467_0 hx468_0 hHeld ⊢
                        refine pure_ (i := 0) (N := some 95) (v := ?_) (a' := ?_) (Ya 16 1) rfl rfl (any_of HT_.out (by kernel_rfl)) (fun _ _ _ h => h) (Or.inl ⟨by rfl, ?_⟩) ?_ ?_
                        rotate_left
                        ·intro w'
                         go_simp
                         with_reducible rfl
                        rotate_left
                        ·simp only [Act.put, List.setIfInBounds_toArray, List.set_cons_zero, List.set_cons_succ, i64_w, i32_w]
                         rfl
                        refine pure_ (i := 1) (N := some 96) (v := ?_) (a' := ?_) (Ya 16 3) rfl rfl (any_of HT_.out (by kernel_rfl)) (fun _ _ _ h => h) (Or.inl ⟨by rfl, ?_⟩) ?_ ?_
                        rotate_left
                        ·intro w'
                         go_simp
                         with_reducible rfl
                        rotate_left
                        ·simp only [Act.put, List.setIfInBounds_toArray, List.set_cons_zero, List.set_cons_succ, i64_w, i32_w]
                         rfl
                        refine pure_ (i := 2) (N := some 97) (v := ?_) (a' := ?_) (Ya 16 7) rfl rfl (any_of HT_.out (by kernel_rfl)) (fun _ _ _ h => h) (Or.inl ⟨by rfl, ?_⟩) ?_ ?_
                        rotate_left
                        ·intro w'
                         go_simp
                         with_reducible rfl
                        rotate_left
                        ·simp only [Act.put, List.setIfInBounds_toArray, List.set_cons_zero, List.set_cons_succ, i64_w, i32_w]
                         rfl
                        refine take_ (i := 3) (N := some 98) (v := ?_) (a' := ?_) (Ya 16 15) rfl rfl (take_ofW HT_.out HW_.out (by kernel_rfl)) (fun _ _ _ h => h) (Or.inl ⟨by rfl, ?_⟩) hHeld ?_ ?_
                        rotate_left
                        ·rintro w' ⟨s0, s1, s2, s3, s4, s5, s6, s7, s8, s9⟩
                         go_simp
                         with_reducible rfl
                        rotate_left
                        ·simp only [Act.put, List.setIfInBounds_toArray, List.set_cons_zero, List.set_cons_succ, i64_w, i32_w]
                         rfl
                        refine pure_ (i := 4) (N := some 99) (v := ?_) (a' := ?_) (Ya 16 31) rfl rfl (any_of HT_.out (by kernel_rfl)) (fun _ _ _ h => h) (Or.inl ⟨by rfl, ?_⟩) ?_ ?_
                        rotate_left
                        ·intro w'
                         go_simp
                         with_reducible rfl
                        rotate_left
                        ·simp only [Act.put, List.setIfInBounds_toArray, List.set_cons_zero, List.set_cons_succ, i64_w, i32_w]
                         rfl
                        refine pure_ (i := 5) (N := some 100) (v := ?_) (a' := ?_) (Ya 16 63) rfl rfl (any_of HT_.out (by kernel_rfl)) (fun _ _ _ h => h) (Or.inl ⟨by rfl, ?_⟩) ?_ ?_
                        rotate_left
                        ·intro w'
                         go_simp
                         with_reducible rfl
                        rotate_left
                        ·simp only [Act.put, List.setIfInBounds_toArray, List.set_cons_zero, List.set_cons_succ, i64_w, i32_w]
                         rfl
                        refine pure_ (i := 6) (N := some 101) (v := ?_) (a' := ?_) (Ya 16 127) rfl rfl (any_of HT_.out (by kernel_rfl)) (fun _ _ _ h => h) (Or.inl ⟨by rfl, ?_⟩) ?_ ?_
                        rotate_left
                        ·intro w'
                         go_simp
                         with_reducible rfl
                        rotate_left
                        ·simp only [Act.put, List.setIfInBounds_toArray, List.set_cons_zero, List.set_cons_succ, i64_w, i32_w]
                         rfl
                        refine pure_ (i := 7) (N := some 102) (v := ?_) (a' := ?_) (Ya 16 255) rfl rfl (any_of HT_.out (by kernel_rfl)) (fun _ _ _ h => h) (Or.inl ⟨by rfl, ?_⟩) ?_ ?_
                        rotate_left
                        ·intro w'
                         go_simp
                         with_reducible rfl
                        rotate_left
                        ·simp only [Act.put, List.setIfInBounds_toArray, List.set_cons_zero, List.set_cons_succ, i64_w, i32_w]
                         rfl
                        refine pure_ (i := 8) (N := some 103) (v := ?_) (a' := ?_) (Ya 16 511) rfl rfl (any_of HT_.out (by kernel_rfl)) (fun _ _ _ h => h) (Or.inl ⟨by rfl, ?_⟩) ?_ ?_
                        rotate_left
                        ·intro w'
                         go_simp
                         with_reducible rfl
                        rotate_left
                        ·simp only [Act.put, List.setIfInBounds_toArray, List.set_cons_zero, List.set_cons_succ, i64_w, i32_w]
                         rfl
                        refine take_ (i := 9) (N := some 104) (v := ?_) (a' := ?_) (Ya 16 1023) rfl rfl (take_ofW HT_.out HW_.out (by kernel_rfl)) (fun _ _ _ h => h) (Or.inl ⟨by rfl, ?_⟩) hHeld ?_ ?_
                        rotate_left
                        ·rintro w' ⟨s0, s1, s2, s3, s4, s5, s6, s7, s8, s9⟩
                         go_simp
                         with_reducible rfl
                        rotate_left
                        ·simp only [Act.put, List.setIfInBounds_toArray, List.set_cons_zero, List.set_cons_succ, i64_w, i32_w]
                         rfl
                        refine take_ (i := 10) (N := some 105) (v := ?_) (a' := ?_) (Ya 16 2047) rfl rfl (take_ofW HT_.out HW_.out (by kernel_rfl)) (fun _ _ _ h => h) (Or.inl ⟨by rfl, ?_⟩) hHeld ?_ ?_
                        rotate_left
                        ·rintro w' ⟨s0, s1, s2, s3, s4, s5, s6, s7, s8, s9⟩
                         go_simp
                         with_reducible rfl
                        rotate_left
                        ·simp only [Act.put, List.setIfInBounds_toArray, List.set_cons_zero, List.set_cons_succ, i64_w, i32_w]
                         rfl
                        refine take_ (i := 11) (N := some 106) (v := ?_) (a' := ?_) (Ya 16 4095) rfl rfl (take_ofW HT_.out HW_.out (by kernel_rfl)) (fun _ _ _ h => h) (Or.inl ⟨by rfl, ?_⟩) hHeld ?_ ?_
                        rotate_left
                        ·rintro w' ⟨s0, s1, s2, s3, s4, s5, s6, s7, s8, s9⟩
                         go_simp
                         with_reducible rfl
                        rotate_left
                        ·simp only [Act.put, List.setIfInBounds_toArray, List.set_cons_zero, List.set_cons_succ, i64_w, i32_w]
                         rfl
                        refine one_ (i := 12) (N := some 107) (Ya 16 8191) rfl rfl (one_of HT_.out (by kernel_rfl)) (by decide) (fun K hK => ?_)
                        refine goes_ Tryz.func19 (by kernel_rfl) rfl #[.agg #[.int .i64 a1_0, .int .i64 a1_1, .int .i64 a1_2, .int .i64 a1_3, .int .i64 a1_4, .int .i64 a1_5]] (by rfl) rfl rfl (by (try simp only [List.map_toArray, List.map_cons, List.map_nil]); first | done | rfl | (simp only [List.length_drop, List.length_take]; rfl)) ?_
                        with_reducible refine (laws_moment.calls a1_0 a1_1 a1_2 a1_3 a1_4 a1_5 t469 t470 t471 t472 t473 t474 _ A80.out).mono ?_
                        rintro e w99 ⟨rfl, hb⟩
                        have HS8_ := (hb.cell (World.block_lt_of_cell? _ _ (hHeld.2.2.2.2.2.2.2.2.1))).trans (hHeld.2.2.2.2.2.2.2.2.1)
                        have HS9_ := (hb.cell (World.block_lt_of_cell? _ _ (hHeld.2.2.2.2.2.2.2.2.2))).trans (hHeld.2.2.2.2.2.2.2.2.2)
                        refine ⟨_, rfl, ?_⟩
                        have n0_ := Aside0.mk (Kd.R_below (by (with_reducible repeat (first | apply Kd.R_alloc | apply Kd.R_drewN | apply Kd.R_drew)); exact HO_11.out) hb)
                        have n1_ := Aside0.mk (Kd.R_below (by (with_reducible repeat (first | apply Kd.R_alloc | apply Kd.R_drewN | apply Kd.R_drew)); exact HO_12.out) hb)
                        have n2_ := Aside0.mk (Kd.R_below (by (with_reducible repeat (first | apply Kd.R_alloc | apply Kd.R_drewN | apply Kd.R_drew)); exact HO_88.out) hb)
                        have n3_ := Aside0.mk (Kd.R_below (by (with_reducible repeat (first | apply Kd.R_alloc | apply Kd.R_drewN | apply Kd.R_drew)); exact HL465_0.out) hb)
                        have n4_ := Aside0.mk (blk_below (g := gb424) (o := .cells #[.int .i64 a1_0, .int .i64 a1_1, .int .i64 a1_2, .int .i64 a1_3, .int .i64 a1_4, .int .i64 a1_5] 26 (0, 0)) (by (with_reducible repeat (first | refine blk_drewN ?_ _ | refine blk_drew ?_ | refine blk_alloc ?_ _)); exact BK424.out) hb)
                        have n5_ := Aside0.mk (blk_below (g := gb466) (o := .cells #[.slice A465_0 ((rd_T30 x5_1 x90_5).f0).length c465_0, .bool ((rd_T30 x5_1 x90_5).f1)] 30 (0, 0)) (by (with_reducible repeat (first | refine blk_drewN ?_ _ | refine blk_drew ?_ | refine blk_alloc ?_ _)); exact BK466.out) hb)
                        have n6_ := Aside0.mk (below_step (by repeat (first | (with_reducible first | exact HB.out | apply below_alloc | apply pw_below_drewN | apply below_drew1 | refine below_set ?_ GE424.out | refine below_set ?_ GE466.out) | exact HB.out)) hb)
                        clear HO_11
                        clear HO_12
                        clear HO_88
                        clear HL465_0
                        clear BK424
                        clear BK466
                        clear HB
                        have HO_11 := n0_
                        have HO_12 := n1_
                        have HO_88 := n2_
                        have HL465_0 := n3_
                        have BK424 := n4_
                        have BK466 := n5_
                        have HB := n6_
                        clear n0_ n1_ n2_ n3_ n4_ n5_ n6_
                        (try clear hb)
                        (try clear hb2)
                        (try clear hk)
                        (try clear hi)
                        refine hK.out _ _ ⟨(blk_cell BK466.out 0).trans rfl, (blk_cell BK466.out 1).trans rfl, (blk_cell BK424.out 0).trans rfl, (blk_cell BK424.out 1).trans rfl, (blk_cell BK424.out 2).trans rfl, (blk_cell BK424.out 3).trans rfl, (blk_cell BK424.out 4).trans rfl, (blk_cell BK424.out 5).trans rfl, HS8_, HS9_⟩ (fun hHeld => ?_)
                        clear hK K
                        refine norm_ (a' := ?_) ?_ ?_
                        rotate_left
                        ·show Act.put _ (some 107) _ = _
                         simp only [Act.put, List.setIfInBounds_toArray, List.set_cons_zero, List.set_cons_succ, i64_w, i32_w]
                         rfl
                        refine one_ (i := 13) (N := some 108) (Ya 16 16383) rfl rfl (one_of HT_.out (by kernel_rfl)) (by decide) (fun K hK => ?_)
                        refine goes_ Tryz.func18 (by kernel_rfl) rfl #[.agg #[.slice A465_0 ((rd_T30 x5_1 x90_5).f0).length c465_0, .bool ((rd_T30 x5_1 x90_5).f1)], .agg #[.int .i64 t469, .int .i64 t470, .int .i64 t471, .int .i64 t472, .int .i64 t473, .int .i64 t474]] (by rfl) rfl rfl (by (try simp only [List.map_toArray, List.map_cons, List.map_nil]); first | done | rfl | (simp only [List.length_drop, List.length_take]; rfl)) ?_
                        with_reducible refine (spec_Fits.calls k5 _ _ ((rd_T30 x5_1 x90_5).f0) ((rd_T30 x5_1 x90_5).f1) t469 t470 t471 t472 t473 t474 t475 _ ?side1 ?side2 A81.out).mono ?_
                        (case side1 => repeat (first | exact ((Kd.R_reads' (by (with_reducible repeat (first | apply Kd.R_alloc | apply Kd.R_drewN | apply Kd.R_drew)); exact HL465_0.out)).2.2) | (with_reducible refine Kd.C_alloc ?_ _) | (with_reducible refine Kd.C_drewN ?_ _) | (with_reducible refine Kd.C_drew ?_)))
                        (case side2 => exact HC465_0.out)
                        rintro e w100 ⟨rfl, hb⟩
                        have HS8_ := (hb.cell (World.block_lt_of_cell? _ _ (hHeld.2.2.2.2.2.2.2.2.1))).trans (hHeld.2.2.2.2.2.2.2.2.1)
                        have HS9_ := (hb.cell (World.block_lt_of_cell? _ _ (hHeld.2.2.2.2.2.2.2.2.2))).trans (hHeld.2.2.2.2.2.2.2.2.2)
                        refine ⟨_, rfl, ?_⟩
                        have n0_ := Aside0.mk (Kd.R_below (by (with_reducible repeat (first | apply Kd.R_alloc | apply Kd.R_drewN | apply Kd.R_drew)); exact HO_11.out) hb)
                        have n1_ := Aside0.mk (Kd.R_below (by (with_reducible repeat (first | apply Kd.R_alloc | apply Kd.R_drewN | apply Kd.R_drew)); exact HO_12.out) hb)
                        have n2_ := Aside0.mk (Kd.R_below (by (with_reducible repeat (first | apply Kd.R_alloc | apply Kd.R_drewN | apply Kd.R_drew)); exact HO_88.out) hb)
                        have n3_ := Aside0.mk (Kd.R_below (by (with_reducible repeat (first | apply Kd.R_alloc | apply Kd.R_drewN | apply Kd.R_drew)); exact HL465_0.out) hb)
                        have n4_ := Aside0.mk (blk_below (g := gb424) (o := .cells #[.int .i64 a1_0, .int .i64 a1_1, .int .i64 a1_2, .int .i64 a1_3, .int .i64 a1_4, .int .i64 a1_5] 26 (0, 0)) (by (with_reducible repeat (first | refine blk_drewN ?_ _ | refine blk_drew ?_ | refine blk_alloc ?_ _)); exact BK424.out) hb)
                        have n5_ := Aside0.mk (blk_below (g := gb466) (o := .cells #[.slice A465_0 ((rd_T30 x5_1 x90_5).f0).length c465_0, .bool ((rd_T30 x5_1 x90_5).f1)] 30 (0, 0)) (by (with_reducible repeat (first | refine blk_drewN ?_ _ | refine blk_drew ?_ | refine blk_alloc ?_ _)); exact BK466.out) hb)
                        have n6_ := Aside0.mk (below_step (by repeat (first | (with_reducible first | exact HB.out | apply below_alloc | apply pw_below_drewN | apply below_drew1 | refine below_set ?_ GE424.out | refine below_set ?_ GE466.out) | exact HB.out)) hb)
                        clear HO_11
                        clear HO_12
                        clear HO_88
                        clear HL465_0
                        clear BK424
                        clear BK466
                        clear HB
                        have HO_11 := n0_
                        have HO_12 := n1_
                        have HO_88 := n2_
                        have HL465_0 := n3_
                        have BK424 := n4_
                        have BK466 := n5_
                        have HB := n6_
                        clear n0_ n1_ n2_ n3_ n4_ n5_ n6_
                        (try clear hb)
                        (try clear hb2)
                        (try clear hk)
                        (try clear hi)
                        refine hK.out _ _ ⟨(blk_cell BK466.out 0).trans rfl, (blk_cell BK466.out 1).trans rfl, (blk_cell BK424.out 0).trans rfl, (blk_cell BK424.out 1).trans rfl, (blk_cell BK424.out 2).trans rfl, (blk_cell BK424.out 3).trans rfl, (blk_cell BK424.out 4).trans rfl, (blk_cell BK424.out 5).trans rfl, HS8_, HS9_⟩ (fun hHeld => ?_)
                        clear hK K
                        refine norm_ (a' := ?_) ?_ ?_
                        rotate_left
                        ·show Act.put _ (some 108) _ = _
                         simp only [Act.put, List.setIfInBounds_toArray, List.set_cons_zero, List.set_cons_succ, i64_w, i32_w]
                         rfl
                        refine pure_ (i := 14) (N := some 109) (v := ?_) (a' := ?_) (Ya 16 32767) rfl rfl (any_of HT_.out (by kernel_rfl)) (fun _ _ _ h => h) (Or.inl ⟨by rfl, ?_⟩) ?_ ?_
                        rotate_left
                        ·intro w'
                         go_simp
                         with_reducible rfl
                        rotate_left
                        ·simp only [Act.put, List.setIfInBounds_toArray, List.set_cons_zero, List.set_cons_succ, i64_w, i32_w]
                         rfl
                        refine pure_ (i := 15) (N := some 110) (v := ?_) (a' := ?_) (Ya 16 65535) rfl rfl (any_of HT_.out (by kernel_rfl)) (fun _ _ _ h => h) (Or.inl ⟨by rfl, ?_⟩) ?_ ?_
                        rotate_left
                        ·intro w'
                         go_simp
                         with_reducible rfl
                        rotate_left
                        ·simp only [Act.put, List.setIfInBounds_toArray, List.set_cons_zero, List.set_cons_succ, i64_w, i32_w]
                         rfl
                        refine done_ (done_of HT_.out (by kernel_rfl)) ?_
                        try go_wp2
                        go_roundg k5
                        case measure => have := HK1.out; have := HJ19.out; have := HK3.out; have := HJ54.out; have := HK5.out; omega
                        case rel => exact ⟨(wrap64 (x90_5 + 1)), (by first | rfl | (simp; done) | (simp [*]; done)), H', ⟨by have := HK1.out; have := HJ19.out; have := HK3.out; have := HJ54.out; have := HK5.out; omega⟩, ⟨by (with_reducible repeat (first | apply Kd.R_alloc | apply Kd.R_drewN | apply Kd.R_drew)); exact HO_11.out⟩, ⟨by (with_reducible repeat (first | apply Kd.R_alloc | apply Kd.R_drewN | apply Kd.R_drew)); exact HO_12.out⟩, ⟨by (with_reducible repeat (first | apply Kd.R_alloc | apply Kd.R_drewN | apply Kd.R_drew)); exact Kd.R_mono HO_88.out (fun _ hk => trivial)⟩, ⟨by (with_reducible repeat (first | refine blk_drewN ?_ _ | refine blk_drew ?_ | refine blk_alloc ?_ _)); exact BK424.out⟩, ⟨by repeat (first | (with_reducible first | exact HB.out | apply below_alloc | apply pw_below_drewN | apply below_drew1 | refine below_set ?_ GE424.out | refine below_set ?_ GE466.out) | exact HB.out)⟩⟩
                      ·rw [if_neg c79] at H
                       exact absurd H (by simp)
                     ·replace c78 := Bool.eq_false_iff.mpr c78
                      subst c78
                      have H1 : (some false) = some r := by rw [if_neg (show ¬ (false = true) by decide)] at H; exact H
                      exact absurd (H1.trans (congrArg some hr_.out)) (by simp)
                    ·rw [if_neg c76] at H
                     exact absurd H (by simp)
                   ·rw [if_neg c75] at H
                    exact absurd H (by simp)
                  ·rw [if_neg c74] at H
                   exact absurd H (by simp)
                 ·rw [if_neg c73] at H
                  have c73b0 : decide (x90_5 < (x5_1.length : Int)) = false := decide_eq_false c73
                  clear c73
                  obtain rfl := Option.some.inj H
                  go_wp2
                  go_ret
                  exact ⟨by first | rfl | (simp [errW_none, errW_some] <;> rfl) | (simp [*, errW_none, errW_some] <;> rfl), by repeat (first | (with_reducible first | exact HB.out | apply below_alloc | apply pw_below_drewN | apply below_drew1 | refine below_set ?_ GE424.out) | exact HB.out)⟩
           ·rw [if_neg c53] at H
            exact absurd H (by simp)
 ·replace c4 := Bool.eq_false_iff.mpr c4
  subst c4
  have H1 : (some true) = some r := by rw [if_neg (show ¬ (false = true) by decide)] at H; exact H
  clear H
  have H := H1
  clear H1
  obtain rfl := Option.some.inj H
  go_enter Tryz.func10, Tryz.ntmps10
  go_wp2_with (first | ((with_reducible refine gate_dst (N := 3) rfl ?_); (try (refine gate_guard (by rfl) ?_; dsimp only)); refine box_event ?hg (N := 3) ?hd (cs := #[.int .i64 a1_0, .int .i64 a1_1, .int .i64 a1_2, .int .i64 a1_3, .int .i64 a1_4, .int .i64 a1_5]) (t := 26) ?hr ?_; (case hd => rfl); (case hg => rfl); (case hr => first | (go_simp; done) | (go_simp; rfl)); intro gb424 hg w107 hbox hb; have n0_ := Aside0.mk (below_step (by repeat (first | (with_reducible first | exact HB.out | apply below_alloc | apply pw_below_drewN | apply below_drew1) | exact HB.out)) hb); have n1_ := Aside0.mk (hbox); have n2_ := Aside0.mk ((by rw [hg]; exact (below_size (by repeat (first | (with_reducible first | exact HB.out | apply below_alloc | apply pw_below_drewN | apply below_drew1) | exact HB.out))) : w.heap.size ≤ gb424)); have n3_ := Aside0.mk ((by rw [hg]; exact (below_size (by repeat (first | (with_reducible first | exact HB.out | apply below_alloc | apply pw_below_drewN | apply below_drew1) | exact HB.out))) : w.heap.size ≤ gb424)); clear HB; have HB := n0_; have BK424 := n1_; have GW424 := n2_; have GE424 := n3_; clear n0_ n1_ n2_ n3_; clear hb hbox hg) | ((with_reducible refine gate_callee (f := 27) rfl ?_); refine goesL_ (some 16) rfl rfl Tryz.func27 (by kernel_rfl) rfl #[.slice A0 l0.length c0] rfl (by (try simp only [List.map_toArray, List.map_cons, List.map_nil]); first | done | rfl | (simp only [List.length_drop, List.length_take]; rfl)) ?_; (with_reducible refine (laws_zzFits3.calls k _ _ l0 false _ ?side1 ?side2 A3.out).mono ?_); (case side1 => repeat (first | exact (Kd.C_below HR0.out HB.out) | (with_reducible refine Kd.C_alloc ?_ _) | (with_reducible refine Kd.C_drewN ?_ _) | (with_reducible refine Kd.C_drew ?_))); (case side2 => exact HC0.out); rintro e w108 ⟨rfl, hb⟩; refine ⟨_, rfl, ?_⟩; have n0_ := Aside0.mk (blk_below (g := gb424) (o := .cells #[.int .i64 a1_0, .int .i64 a1_1, .int .i64 a1_2, .int .i64 a1_3, .int .i64 a1_4, .int .i64 a1_5] 26 (0, 0)) (by (with_reducible repeat (first | refine blk_drewN ?_ _ | refine blk_drew ?_ | refine blk_alloc ?_ _)); exact BK424.out) hb); have n1_ := Aside0.mk (below_step (by repeat (first | (with_reducible first | exact HB.out | apply below_alloc | apply pw_below_drewN | apply below_drew1 | refine below_set ?_ GE424.out) | exact HB.out)) hb); clear BK424; clear HB; have BK424 := n0_; have HB := n1_; clear n0_ n1_; (try clear hb); (try clear hb2); (try clear hk); (try clear hi)))
  go_ret
  exact ⟨by first | rfl | (simp [errW_none, errW_some] <;> rfl) | (simp [*, errW_none, errW_some] <;> rfl), by repeat (first | (with_reducible first | exact HB.out | apply below_alloc | apply pw_below_drewN | apply below_drew1 | refine below_set ?_ GE424.out) | exact HB.out)⟩
end Go.Proofs.YtemgofomhjabpaaGreatDoor.Core
namespace Go.Proofs.YtemgofomhjabpaaGreatDoor.Core
open Go.RowKit Go.Proofs.YtemgofomhjabpaaGreatDoorW.PrintWords
def idxL (m : List UInt8) : List UInt8 → Nat → Int
 | [], _ => -1
 | b :: t, i => if m.length ≤ t.length + 1 then (if (b :: t).take m.length = m then (i : Int) else idxL m t (i + 1)) else -1
theorem zzIndex_from (l m : List UInt8) (hm : m ≠ []) (hl : l.length < 4611686018427387904) (hml : m.length < 4611686018427387904) :
  ∀ (rest : List UInt8) (i : Nat), l.drop i = rest → i ≤ l.length → Ev (fun k => gronx_zzIndex.l0 k (B l) (B m) (i : Int)) (idxL m rest i) := by
 have hm0 : 0 < m.length := List.length_pos_iff.2 hm
 intro rest
 induction rest with
 | nil =>
  intro i hi hil
  have hlen : l.length ≤ i := List.drop_eq_nil_iff.1 hi
  refine Ev.done fun k => ?_
  simp only [gronx_zzIndex.l0, B_size]
  rw [wrap64_id (by omega) (by omega), if_neg (by omega)]
  rfl
 | cons b t ih =>
  intro i hi hil
  have hlen : t.length + 1 = l.length - i := by have := congrArg List.length hi; simpa using this.symm
  unfold idxL
  by_cases h1 : m.length ≤ t.length + 1
  ·rw [if_pos h1]
   have hcut : (B l).extract ((i : Int)).toNat (((i : Int) + (m.length : Int))).toNat = B ((b :: t).take m.length) := by
    rw [B_cut, show ((i : Int)).toNat = i by omega, hi, show (((i : Int) + (m.length : Int))).toNat - i = m.length by omega]
   by_cases h2 : (b :: t).take m.length = m
   ·rw [if_pos h2]
    refine Ev.done fun k => ?_
    simp only [gronx_zzIndex.l0, B_size]
    rw [wrap64_id (by omega) (by omega), if_pos (by omega), if_pos (by omega), if_pos (by omega), hcut, B_list, B_list, if_pos h2]
   ·rw [if_neg h2]
    refine Ev.step (f := fun k => gronx_zzIndex.l0 k (B l) (B m) ((i + 1 : Nat) : Int)) (fun k => ?_) (ih (i + 1) ?_ (by omega))
    ·simp only [gronx_zzIndex.l0, B_size]
     rw [wrap64_id (by omega) (by omega), if_pos (by omega), if_pos (by omega), if_pos (by omega), hcut, B_list, B_list, if_neg h2, wrap64_nat i (by omega)]
    ·rw [← List.drop_drop, hi]; rfl
  ·rw [if_neg h1]
   refine Ev.done fun k => ?_
   simp only [gronx_zzIndex.l0, B_size]
   rw [wrap64_id (by omega) (by omega), if_neg (by omega)]
theorem zzIndex_ev (l m : List UInt8) (hm : m ≠ []) (hl : l.length < 4611686018427387904) (hml : m.length < 4611686018427387904) :
  Ev (fun k => gronx_zzIndex.f k (B l) (B m)) (idxL m l 0) := zzIndex_from l m hm hl hml l 0 rfl (Nat.zero_le _)
theorem idxL_one_none (c : UInt8) (l : List UInt8) (h : c ∉ l) (i : Nat) : idxL [c] l i = -1 := by
 induction l generalizing i with
 | nil => rfl
 | cons b t ih =>
  unfold idxL
  rw [if_pos (by simp), if_neg (by simp; intro e; exact h (by simp [e])), ih (fun e => h (by simp [e]))]
theorem idxL_one_at (c : UInt8) (p r : List UInt8) (h : c ∉ p) (i : Nat) : idxL [c] (p ++ c :: r) i = ((i + p.length : Nat) : Int) := by
 induction p generalizing i with
 | nil => simp [idxL]
 | cons b t ih =>
  rw [List.cons_append]
  unfold idxL
  rw [if_pos (by simp), if_neg (by simp; intro e; exact h (by simp [e])), ih (fun e => h (by simp [e]))]
  simp
  omega
def splitL (c : UInt8) : List UInt8 → List (List UInt8)
 | [] => [[]]
 | b :: t => if b = c then [] :: splitL c t else match splitL c t with | [] => [[b]] | h :: r => (b :: h) :: r
theorem splitL_none (c : UInt8) (l : List UInt8) (h : c ∉ l) : splitL c l = [l] := by
 induction l with
 | nil => rfl
 | cons b t ih => rw [splitL, if_neg (fun e => h (by simp [e])), ih (fun e => h (by simp [e]))]
theorem splitL_at (c : UInt8) (p r : List UInt8) (h : c ∉ p) : splitL c (p ++ c :: r) = p :: splitL c r := by
 induction p with
 | nil => simp [splitL]
 | cons b t ih => rw [List.cons_append, splitL, if_neg (fun e => h (by simp [e])), ih (fun e => h (by simp [e]))]
theorem mem_cut {c : UInt8} {l : List UInt8} (h : c ∈ l) : ∃ p r, l = p ++ c :: r ∧ c ∉ p := by
 induction l with
 | nil => cases h
 | cons b t ih =>
  by_cases e : b = c
  ·exact ⟨[], t, by simp [e], by simp⟩
  ·obtain ⟨p, r, rfl, hp⟩ := ih (by rcases List.mem_cons.1 h with h | h; exact absurd h.symm e; exact h)
   exact ⟨b :: p, r, rfl, by simp [hp, Ne.symm e]⟩
theorem zzSplit_from (c : UInt8) : ∀ (n : Nat) (l : List UInt8) (acc : List ByteArray), l.length ≤ n → l.length + acc.length < 8796093022208 →
  Ev (fun k => gronx_zzSplit.l0 k (B l) (B [c]) acc) (acc ++ (splitL c l).map B) := by
 intro n
 induction n with
 | zero =>
  intro l acc hn hb
  obtain rfl : l = [] := List.eq_nil_of_length_eq_zero (by omega)
  have hix := zzIndex_ev [] [c] (by simp) (by simp) (by simp)
  refine Ev.step (f := fun k => (gronx_zzIndex.f k (B []) (B [c])).bind fun t => if t < 0 then some (acc ++ [B []]) else none) (fun k => ?_) (Ev.bind hix (Ev.const (by simp [idxL, splitL])))
  simp only [gronx_zzSplit.l0]
  cases gronx_zzIndex.f k (B []) (B [c]) with
  | none => rfl
  | some t =>
   simp only [Option.bind_some]
   by_cases h : t < 0
   ·rw [if_pos h, if_pos h, if_pos (by omega)]
   ·rw [if_neg h, if_neg h, if_pos (by omega)]
    by_cases h2 : t ≤ ((B []).size : Int)
    ·have h3 : t = 0 := by rw [B_size] at h2; simp at h2; omega
     subst h3
     rw [if_pos h2, if_pos (by omega), B_size, B_size, wrap64_id (by simp) (by simp), if_pos (by simp), if_neg (by simp)]
    ·rw [if_neg h2]
 | succ n ih =>
  intro l acc hn hb
  by_cases hc : c ∈ l
  ·obtain ⟨p, r, rfl, hp⟩ := mem_cut hc
   have hlen : (p ++ c :: r).length = p.length + 1 + r.length := by simp; omega
   have hix := zzIndex_ev (p ++ c :: r) [c] (by simp) (by omega) (by simp)
   rw [idxL_one_at c p r hp] at hix
   rw [splitL_at c p r hp]
   have hrec := ih r (acc ++ [B p]) (by omega) (by simp; omega)
   refine Ev.step (f := fun k => (gronx_zzIndex.f k (B (p ++ c :: r)) (B [c])).bind fun t => if t = ((0 + p.length : Nat) : Int) then gronx_zzSplit.l0 k (B r) (B [c]) (acc ++ [B p]) else gronx_zzSplit.l0 (k + 1) (B (p ++ c :: r)) (B [c]) acc) (fun k => ?_) (Ev.bind hix ?_)
   ·cases hg : gronx_zzIndex.f k (B (p ++ c :: r)) (B [c]) with
    | none => simp only [gronx_zzSplit.l0, hg]; rfl
    | some t =>
     simp only [Option.bind_some]
     by_cases h : t = ((0 + p.length : Nat) : Int)
     ·rw [if_pos h]
      subst h
      simp only [gronx_zzSplit.l0, hg, Option.bind_some, B_size]
      rw [if_neg (by omega), if_pos (by omega), if_pos (by rw [hlen]; omega), if_pos (by omega), wrap64_id (by simp; omega) (by simp; omega), if_pos (by simp; omega), if_pos (by rw [hlen]; simp; omega)]
      congr 1
      ·rw [B_cut]
       congr 1
       simp only [Nat.zero_add, List.length_singleton]
       rw [show ((p.length : Int) + ((1 : Nat) : Int)).toNat = p.length + 1 by omega, List.drop_append, List.drop_eq_nil_of_le (by omega), show p.length + 1 - p.length = 1 by omega]
       simp only [List.nil_append, List.drop_succ_cons, List.drop_zero]
       exact List.take_of_length_le (by omega)
      ·rw [B_cut]
       congr 3
       simp
     ·rw [if_neg h]
   ·refine Ev.congr (f := fun k => gronx_zzSplit.l0 k (B r) (B [c]) (acc ++ [B p])) (fun k => by rw [if_pos rfl]) ?_
    simpa using hrec
  ·have hix := zzIndex_ev l [c] (by simp) (by omega) (by simp)
   rw [idxL_one_none c l hc] at hix
   rw [splitL_none c l hc]
   refine Ev.step (f := fun k => (gronx_zzIndex.f k (B l) (B [c])).bind fun t => if t < 0 then some (acc ++ [B l]) else gronx_zzSplit.l0 (k + 1) (B l) (B [c]) acc) (fun k => ?_) (Ev.bind hix (Ev.const (by simp)))
   cases hg : gronx_zzIndex.f k (B l) (B [c]) with
   | none => simp only [gronx_zzSplit.l0, hg]; rfl
   | some t =>
    simp only [Option.bind_some]
    by_cases h : t < 0
    ·rw [if_pos h]; simp only [gronx_zzSplit.l0, hg, Option.bind_some]; rw [if_pos h, if_pos (by omega)]
    ·rw [if_neg h]
theorem zzSplit_ev (c : UInt8) (l : List UInt8) (h : l.length < 8796093022208) : Ev (fun k => gronx_zzSplit.f k (B l) (B [c])) ((splitL c l).map B) := by
 have := zzSplit_from c l.length l [] (Nat.le_refl _) (by simpa using h)
 rw [List.nil_append] at this
 exact this
theorem zzReplace_no (l m q : List UInt8) (hm : m ≠ []) (hml : m.length < 4611686018427387904) (h : idxL m l 0 = -1) (hl : l.length < 140737488355328) :
  Ev (fun k => gronx_zzReplaceAll.f k (B l) (B m) (B q)) (B l) := by
 have hix := zzIndex_ev l m hm (by omega) hml
 rw [h] at hix
 unfold gronx_zzReplaceAll.f
 refine Ev.step (f := fun k => (gronx_zzIndex.f k (B l) (B m)).bind fun t => if t < 0 then some (B l) else gronx_zzReplaceAll.l0 (k + 1) (B l) (B m) (B q) []) (fun k => ?_) (Ev.bind hix (Ev.const (by simp)))
 cases hg : gronx_zzIndex.f k (B l) (B m) with
 | none => simp only [gronx_zzReplaceAll.l0, hg]; rfl
 | some t =>
  simp only [Option.bind_some]
  by_cases h : t < 0
  ·rw [if_pos h]; simp only [gronx_zzReplaceAll.l0, hg, Option.bind_some]; rw [if_pos h, if_pos (by simp [B_size]; omega), List.nil_append, B_bytesOf, strOfNums_B]
  ·rw [if_neg h]
theorem zzTrim_ev (l : List UInt8) (hl : l.length < 4611686018427387904) (hne : l ≠ []) (h0 : ∀ b, l.head? = some b → b ≠ 32 ∧ b ≠ 9) (h1 : ∀ b, l.getLast? = some b → b ≠ 32 ∧ b ≠ 9) :
  Ev (fun k => gronx_zzTrim.f k (B l)) (B l) := by
 have hpos : 0 < l.length := List.length_pos_iff.2 hne
 have hU : ∀ b : UInt8, b ≠ 32 → ¬ (b.toNat : Int) = 32 := fun b hb e => hb (UInt8.toNat_inj.1 (show b.toNat = 32 by omega))
 have hV : ∀ b : UInt8, b ≠ 9 → ¬ (b.toNat : Int) = 9 := fun b hb e => hb (UInt8.toNat_inj.1 (show b.toNat = 9 by omega))
 have e0 : bt (B l) 0 = ((l[0]'hpos).toNat : Int) := bt_B_at l 0 hpos
 have e1 : bt (B l) ((l.length : Int) - 1) = ((l[l.length - 1]'(by omega)).toNat : Int) := by
  have := bt_B_at l (l.length - 1) (by omega)
  rwa [show ((l.length - 1 : Nat) : Int) = (l.length : Int) - 1 by omega] at this
 have a0 := h0 (l[0]'hpos) (by rw [List.head?_eq_getElem?, List.getElem?_eq_getElem hpos])
 have a1 := h1 (l[l.length - 1]'(by omega)) (by rw [List.getLast?_eq_getElem?, List.getElem?_eq_getElem (by omega)])
 unfold gronx_zzTrim.f
 refine Ev.step (f := fun k => gronx_zzTrim.j1 k (B l)) (fun k => ?_) (Ev.step (f := fun k => gronx_zzTrim.l1 k (B l)) (fun k => by simp only [gronx_zzTrim.j1]) (Ev.done fun k => ?_))
 ·simp only [gronx_zzTrim.l0, B_size]
  rw [if_pos (by omega), if_pos (by omega), e0, if_neg (hU _ a0.1), if_neg (hV _ a0.2)]
 ·simp only [gronx_zzTrim.l1, B_size]
  rw [if_pos (by omega), wrap64_id (by omega) (by omega), if_pos (by omega), if_pos (by omega), e1, if_neg (hU _ a1.1), if_neg (hV _ a1.2)]
def noDbl : List UInt8 → Bool
 | a :: b :: t => !(a == 32 && b == 32) && noDbl (b :: t)
 | _ => true
theorem noDbl_idx (l : List UInt8) (h : noDbl l = true) (i : Nat) : idxL [32, 32] l i = -1 := by
 induction l generalizing i with
 | nil => rfl
 | cons a t ih =>
  unfold idxL
  cases t with
  | nil => rw [if_neg (by simp)]
  | cons b t =>
   simp only [noDbl, Bool.and_eq_true, Bool.not_eq_true', Bool.and_eq_false_iff] at h
   rw [if_pos (by simp), if_neg ?_, ih h.2]
   intro e
   simp at e
   rcases h.1 with h1 | h1
   ·simp [e.1] at h1
   ·simp [e.2] at h1
def plainB (b : UInt8) : Bool := b == 32 || (decide (33 ≤ b.toNat) && decide (b.toNat ≤ 63))
theorem noDbl_at (l : List UInt8) (h : noDbl l = true) (i : Nat) (h1 : i + 1 < l.length) (e : l[i]'(by omega) = 32) : l[i + 1] ≠ 32 := by
 induction l generalizing i with
 | nil => simp at h1
 | cons a t ih =>
  cases t with
  | nil => simp at h1
  | cons b t =>
   simp only [noDbl, Bool.and_eq_true, Bool.not_eq_true', Bool.and_eq_false_iff] at h
   cases i with
   | zero =>
    simp at e
    subst e
    intro e2
    simp at e2
    subst e2
    simp at h
   | succ i => exact ih h.2 i (by simpa using h1) (by simpa using e)
theorem zzSpaces_from (l : List UInt8) (hl : l.length < 140737488355328) (hd : noDbl l = true) (hp : ∀ b ∈ l, plainB b = true) :
  ∀ (d i : Nat), l.length - i = d → i ≤ l.length → ∀ (inn : Bool), (inn = true → ∃ h : 0 < i ∧ i ≤ l.length, l[i - 1]'(by omega) = 32) →
   Ev (fun k => gronx_zzSpaces.l0 k (B l) ((l.take i).map fun b => (b.toNat : Int)) inn (i : Int)) (B l) := by
 intro d
 induction d with
 | zero =>
  intro i hd' hi inn hin
  refine Ev.done fun k => ?_
  simp only [gronx_zzSpaces.l0, B_size]
  rw [if_neg (by omega), strOfNums_B, List.take_of_length_le (by omega)]
 | succ d ih =>
  intro i hd' hi inn hin
  have hlt : i < l.length := by omega
  have hb := hp _ (List.getElem_mem hlt)
  have hbt := bt_B_at l i hlt
  have htake : (l.take (i + 1)).map (fun b => (b.toNat : Int)) = (l.take i).map (fun b => (b.toNat : Int)) ++ [(l[i].toNat : Int)] := by
   rw [List.take_succ_eq_append_getElem hlt, List.map_append]; rfl
  by_cases hs : l[i] = 32
  ·have hin0 : inn = false := by
    cases inn with
    | false => rfl
    | true =>
     obtain ⟨hh, e⟩ := hin rfl
     have := noDbl_at l hd (i - 1) (by omega) e
     simp only [show i - 1 + 1 = i by omega] at this
     exact absurd hs this
   subst hin0
   refine Ev.step (f := fun k => gronx_zzSpaces.j1 k (B l) ((l.take i).map fun b => (b.toNat : Int)) false (i : Int) true) (fun k => ?_) ?_
   ·simp only [gronx_zzSpaces.l0, B_size]
    rw [if_pos (by omega), if_pos (by omega), hbt, hs, if_pos (by rfl)]
    rfl
   ·refine Ev.step (f := fun k => gronx_zzSpaces.l0 k (B l) ((l.take (i + 1)).map fun b => (b.toNat : Int)) true ((i + 1 : Nat) : Int)) (fun k => ?_) (ih (i + 1) (by omega) (by omega) true (fun _ => ⟨⟨by omega, by omega⟩, by simpa using hs⟩))
    simp only [gronx_zzSpaces.j1]
    rw [if_pos trivial, if_neg (by simp), if_pos (by simp; omega), wrap64_nat i (by omega), htake, hs]
    rfl
  ·have hge : 33 ≤ l[i].toNat ∧ l[i].toNat ≤ 63 := by
    simp only [plainB, Bool.or_eq_true, beq_iff_eq, Bool.and_eq_true, decide_eq_true_eq] at hb
    rcases hb with hb | hb
    ·exact absurd hb hs
    ·exact hb
   refine Ev.step (f := fun k => gronx_zzSpaces.j1 k (B l) ((l.take i).map fun b => (b.toNat : Int)) inn (i : Int) false) (fun k => ?_) ?_
   ·simp only [gronx_zzSpaces.l0, B_size]
    rw [if_pos (by omega), if_pos (by omega), hbt, if_neg (by omega), if_neg (by omega), if_neg (by omega), if_neg (by omega), show ((l[i].toNat : Int) == 13) = false by simp; omega]
   ·refine Ev.step (f := fun k => gronx_zzSpaces.l0 k (B l) ((l.take (i + 1)).map fun b => (b.toNat : Int)) false ((i + 1 : Nat) : Int)) (fun k => ?_) (ih (i + 1) (by omega) (by omega) false (by simp))
    simp only [gronx_zzSpaces.j1, B_size]
    rw [if_neg (by simp), if_pos (by omega), if_pos (by omega), if_pos (by simp; omega), wrap64_nat i (by omega), htake, hbt]
theorem zzSpaces_ev (l : List UInt8) (hl : l.length < 140737488355328) (hd : noDbl l = true) (hp : ∀ b ∈ l, plainB b = true) : Ev (fun k => gronx_zzSpaces.f k (B l)) (B l) := by
 have := zzSpaces_from l hl hd hp l.length 0 (by simp) (by omega) false (by simp)
 simpa [gronx_zzSpaces.f] using this
theorem literal_no (l : List UInt8) (h : ∀ b ∈ l, b.toNat ≤ 63) : gronx_literal.f (B l) = some (B []) := by
 have hne : ∀ (c d e : UInt8), 65 ≤ c.toNat → ¬ l = [c, d, e] := by
  intro c d e hc heq
  have := h c (by simp [heq])
  omega
 unfold gronx_literal.f
 simp only [B_list]
 repeat rw [if_neg (hne _ _ _ (by decide))]
 rfl
theorem zzLiterals_from (l : List UInt8) (hl : l.length < 140737488355328) (hp : ∀ b ∈ l, b.toNat ≤ 63) :
  ∀ (d i : Nat), l.length - i = d → i ≤ l.length → Ev (fun k => gronx_zzLiterals.l0 k (B l) ((l.take i).map fun b => (b.toNat : Int)) (i : Int)) (B l) := by
 intro d
 induction d with
 | zero =>
  intro i hd' hi
  refine Ev.done fun k => ?_
  simp only [gronx_zzLiterals.l0, B_size]
  rw [if_neg (by omega), strOfNums_B, List.take_of_length_le (by omega)]
 | succ d ih =>
  intro i hd' hi
  have hlt : i < l.length := by omega
  have hbt := bt_B_at l i hlt
  have htake : (l.take (i + 1)).map (fun b => (b.toNat : Int)) = (l.take i).map (fun b => (b.toNat : Int)) ++ [(l[i].toNat : Int)] := by
   rw [List.take_succ_eq_append_getElem hlt, List.map_append]; rfl
  refine Ev.step (f := fun k => gronx_zzLiterals.l0 k (B l) ((l.take (i + 1)).map fun b => (b.toNat : Int)) ((i + 1 : Nat) : Int)) (fun k => ?_) (ih (i + 1) (by omega) (by omega))
  simp only [gronx_zzLiterals.l0, B_size]
  rw [if_pos (by omega), wrap64_id (i := (i : Int) + 3) (by omega) (by omega)]
  by_cases h3 : i + 3 ≤ l.length
  ·rw [if_pos (by omega), if_pos (by omega), if_pos (by omega), B_cut, literal_no _ (fun b hb => hp b (List.mem_of_mem_drop (List.mem_of_mem_take hb)))]
   simp only [Option.bind_some]
   rw [B_list, if_pos rfl, if_pos (by simp; omega), wrap64_nat i (by omega), htake, hbt]
  ·rw [if_neg (by omega), if_pos (by omega), if_pos (by simp; omega), wrap64_nat i (by omega), htake, hbt]
theorem zzLiterals_ev (l : List UInt8) (hl : l.length < 140737488355328) (hp : ∀ b ∈ l, b.toNat ≤ 63) : Ev (fun k => gronx_zzLiterals.f k (B l)) (B l) := by
 have := zzLiterals_from l hl hp l.length 0 (by simp) (by omega)
 simpa [gronx_zzLiterals.f] using this
def hasYr : List UInt8 → Nat → Bool
 | [], _ => false
 | b :: t, n => if b.toNat < 48 ∨ 57 < b.toNat then hasYr t 0 else if n + 1 = 4 then true else hasYr t (n + 1)
theorem zzHasYear_from (l : List UInt8) (hl : l.length < 4611686018427387904) :
  ∀ (rest : List UInt8) (i n : Nat), l.drop i = rest → i ≤ l.length → n < 4 → Ev (fun k => gronx_zzHasYear.l0 k (B l) (n : Int) (i : Int)) (hasYr rest n) := by
 intro rest
 induction rest with
 | nil =>
  intro i n hi hil hn
  have hlen : l.length ≤ i := List.drop_eq_nil_iff.1 hi
  refine Ev.done fun k => ?_
  simp only [gronx_zzHasYear.l0, B_size]
  rw [if_neg (by omega)]
  rfl
 | cons b t ih =>
  intro i n hi hil hn
  have hlt : i < l.length := by
   rcases Nat.lt_or_ge i l.length with h | h
   ·exact h
   ·rw [List.drop_eq_nil_of_le h] at hi; cases hi
  have hbi : l[i] = b := by
   have := List.drop_eq_getElem_cons hlt
   rw [hi] at this
   exact (List.cons.inj this).1.symm
  have ht : l.drop (i + 1) = t := by rw [← List.drop_drop, hi]; rfl
  have hbt := bt_B_at l i hlt
  rw [hbi] at hbt
  unfold hasYr
  by_cases h1 : b.toNat < 48 ∨ 57 < b.toNat
  ·rw [if_pos h1]
   refine Ev.step (f := fun k => gronx_zzHasYear.j1 k (B l) (n : Int) (i : Int) true) (fun k => ?_) (Ev.step (f := fun k => gronx_zzHasYear.l0 k (B l) ((0 : Nat) : Int) ((i + 1 : Nat) : Int)) (fun k => ?_) (ih (i + 1) 0 ht (by omega) (by omega)))
   ·simp only [gronx_zzHasYear.l0, B_size]
    rw [if_pos (by omega), if_pos (by omega), hbt]
    by_cases h2 : (b.toNat : Int) < 48
    ·rw [if_pos h2]
    ·rw [if_neg h2, show decide ((b.toNat : Int) > 57) = true from decide_eq_true (by omega)]
   ·simp only [gronx_zzHasYear.j1]
    rw [if_pos trivial, wrap64_nat i (by omega)]
    rfl
  ·rw [if_neg h1]
   by_cases h2 : n + 1 = 4
   ·rw [if_pos h2]
    refine Ev.step (f := fun k => gronx_zzHasYear.j1 k (B l) (n : Int) (i : Int) false) (fun k => ?_) (Ev.done fun k => ?_)
    ·simp only [gronx_zzHasYear.l0, B_size]
     rw [if_pos (by omega), if_pos (by omega), hbt, if_neg (by omega), show decide ((b.toNat : Int) > 57) = false from decide_eq_false (by omega)]
    ·simp only [gronx_zzHasYear.j1]
     rw [if_neg (by simp), wrap64_nat n (by omega), if_pos (by omega)]
   ·rw [if_neg h2]
    refine Ev.step (f := fun k => gronx_zzHasYear.j1 k (B l) (n : Int) (i : Int) false) (fun k => ?_) (Ev.step (f := fun k => gronx_zzHasYear.l0 k (B l) ((n + 1 : Nat) : Int) ((i + 1 : Nat) : Int)) (fun k => ?_) (ih (i + 1) (n + 1) ht (by omega) (by omega)))
    ·simp only [gronx_zzHasYear.l0, B_size]
     rw [if_pos (by omega), if_pos (by omega), hbt, if_neg (by omega), show decide ((b.toNat : Int) > 57) = false from decide_eq_false (by omega)]
    ·simp only [gronx_zzHasYear.j1]
     rw [if_neg (by simp), wrap64_nat n (by omega), if_neg (by omega), wrap64_nat i (by omega)]
theorem zzHasYear_ev (l : List UInt8) (hl : l.length < 4611686018427387904) : Ev (fun k => gronx_zzHasYear.f k (B l)) (hasYr l 0) := by
 have := zzHasYear_from l hl l 0 0 rfl (Nat.zero_le _) (by omega)
 simpa [gronx_zzHasYear.f] using this
theorem toLower_plain (l : List UInt8) (hl : l.length ≤ 140737488355328) (hp : ∀ b ∈ l, b.toNat ≤ 63) : strings_ToLower.f (B l) = some (B l) := by
 unfold strings_ToLower.f
 rw [B_size, if_pos hl, if_pos (by unfold isAscii; rw [B_data, List.all_eq_true]; intro b hb; exact decide_eq_true (by have := hp b hb; omega))]
 rw [B_data]
 have : Lib.toLowerA l = l := by
  unfold Lib.toLowerA
  conv => rhs; rw [← List.map_id l]
  apply List.map_congr_left
  intro b hb
  have h := hp b hb
  have hu : Lib.isUpperB b = false := by
   unfold Lib.isUpperB
   rw [Bool.and_eq_false_iff]
   exact Or.inl (decide_eq_false (by rw [UInt8.le_iff_toNat_le]; show ¬ 65 ≤ b.toNat; omega))
  simp [Lib.lowerB, hu]
 rw [this]
 rfl
theorem toUpper_plain (l : List UInt8) (hl : l.length ≤ 140737488355328) (hp : ∀ b ∈ l, b.toNat ≤ 63) : strings_ToUpper.f (B l) = some (B l) := by
 unfold strings_ToUpper.f
 rw [B_size, if_pos hl, if_pos (by unfold isAscii; rw [B_data, List.all_eq_true]; intro b hb; exact decide_eq_true (by have := hp b hb; omega))]
 rw [B_data]
 have : Lib.toUpperA l = l := by
  unfold Lib.toUpperA
  conv => rhs; rw [← List.map_id l]
  apply List.map_congr_left
  intro b hb
  have h := hp b hb
  have hu : Lib.isLowerB b = false := by
   unfold Lib.isLowerB
   rw [Bool.and_eq_false_iff]
   exact Or.inl (decide_eq_false (by rw [UInt8.le_iff_toNat_le]; show ¬ 97 ≤ b.toNat; omega))
  simp [Lib.upperB, hu]
 rw [this]
 rfl
theorem expression_no (l : List UInt8) (hp : ∀ b ∈ l, b.toNat ≤ 63) : gronx_expression.f (B l) = some (B [], false) := by
 have hne : ∀ (m : List UInt8), ¬ l = 64 :: m := by
  intro m e
  have := hp 64 (by simp [e])
  simp at this
 unfold gronx_expression.f
 simp only [B_list]
 repeat rw [if_neg (hne _)]
 rfl
abbrev It := S38
def lowI (i : Nat) : Int := if i = 3 then 1 else if i = 4 then 1 else 0
def highI (i : Nat) : Int := [59, 59, 23, 31, 12, 6].getD i 0
theorem low_some (i : Nat) : spec_Low.f (i : Int) = some (lowI i) := by
 unfold spec_Low.f lowI
 by_cases h : i = 3
 ·subst h; rfl
 ·by_cases h4 : i = 4
  ·subst h4; rfl
  ·rw [if_neg (by omega), if_neg (by omega), if_neg h, if_neg h4]
theorem high_some (i : Nat) (h : i < 6) : spec_High.f (i : Int) = some (highI i) := by
 unfold spec_High.f highI
 rw [if_pos (by omega), if_pos (by omega), rd_at]
theorem highI_le (i : Nat) : highI i ≤ 59 := by
 unfold highI
 match i with
 | 0 | 1 | 2 | 3 | 4 | 5 => decide
 | n + 6 => simp
theorem lowI_ge (i : Nat) : 0 ≤ lowI i := by
 unfold lowI
 split
 ·omega
 ·split <;> omega
def goodItem (i : Nat) (x : It) : Bool := decide (1 ≤ x.f3) && decide (x.f3 ≤ 60) && (x.f0 || (decide (lowI i ≤ x.f1) && decide (x.f2 ≤ highI i) && decide (x.f1 ≤ x.f2)))
def goodF (i : Nat) (l : List It) : Bool := l.all (goodItem i) && decide (1 ≤ l.length) && decide (l.length ≤ 6)
theorem rdI_at (l : List It) (j : Nat) (h : j < l.length) : rd_T38 l (j : Int) = l[j] := by
 simp [rd_T38, h]
theorem good_from (i : Nat) (hi : i < 6) (l : List It) (hl : l.length < 4611686018427387904) :
  ∀ (rest : List It) (j : Nat), l.drop j = rest → j ≤ l.length →
   Ev (fun k => spec_Good.l0 k (i : Int) l l (l.length : Int) (j : Int)) (rest.all (goodItem i) && decide (1 ≤ l.length) && decide (l.length ≤ 6)) := by
 intro rest
 induction rest with
 | nil =>
  intro j hj hjl
  have hlen : l.length ≤ j := List.drop_eq_nil_iff.1 hj
  refine Ev.done fun k => ?_
  simp only [spec_Good.l0]
  rw [if_neg (by omega)]
  by_cases h1 : 1 ≤ l.length
  ·rw [if_pos (by omega)]
   simp [h1]
   omega
  ·rw [if_neg (by omega)]
   simp [h1]
 | cons x t ih =>
  intro j hj hjl
  have hlt : j < l.length := by
   rcases Nat.lt_or_ge j l.length with h | h
   ·exact h
   ·rw [List.drop_eq_nil_of_le h] at hj; cases hj
  have hx : l[j] = x := by
   have := List.drop_eq_getElem_cons hlt
   rw [hj] at this
   exact (List.cons.inj this).1.symm
  have ht : l.drop (j + 1) = t := by rw [← List.drop_drop, hj]; rfl
  have hrd := rdI_at l j hlt
  rw [hx] at hrd
  have hrec := ih (j + 1) ht (by omega)
  by_cases hs : x.f3 < 1 ∨ 60 < x.f3
  ·refine Ev.step (f := fun k => spec_Good.j1 k (i : Int) l l (l.length : Int) (j : Int) true x.f0 x.f1 x.f2 x.f3) (fun k => ?_) (Ev.done fun k => ?_)
   ·simp only [spec_Good.l0, hrd]
    rw [if_pos (by omega), if_pos (by omega), if_pos (by omega)]
    by_cases h1 : x.f3 < 1
    ·rw [if_pos h1]
    ·rw [if_neg h1, show decide (x.f3 > 60) = true from decide_eq_true (by omega)]
   ·simp only [spec_Good.j1]
    rw [if_pos trivial]
    have : goodItem i x = false := by
     unfold goodItem
     rcases hs with h | h
     ·rw [show decide (1 ≤ x.f3) = false from decide_eq_false (by omega)]; rfl
     ·rw [show decide (x.f3 ≤ 60) = false from decide_eq_false (by omega)]; simp
    simp [this]
  ·refine Ev.step (f := fun k => spec_Good.j1 k (i : Int) l l (l.length : Int) (j : Int) false x.f0 x.f1 x.f2 x.f3) (fun k => ?_) ?_
   ·simp only [spec_Good.l0, hrd]
    rw [if_pos (by omega), if_pos (by omega), if_pos (by omega), if_neg (by omega), show decide (x.f3 > 60) = false from decide_eq_false (by omega)]
   ·have h1 : decide (1 ≤ x.f3) = true := decide_eq_true (by omega)
    have h2 : decide (x.f3 ≤ 60) = true := decide_eq_true (by omega)
    have hgo : ∀ b : Bool, goodItem i x = true → Ev (fun k => spec_Good.l0 k (i : Int) l l (l.length : Int) ((j + 1 : Nat) : Int)) ((x :: t).all (goodItem i) && decide (1 ≤ l.length) && decide (l.length ≤ 6)) := by
     intro _ hg
     rw [List.all_cons, hg, Bool.true_and]
     exact hrec
    by_cases h0 : x.f0 = true
    ·refine Ev.step (f := fun k => spec_Good.l0 k (i : Int) l l (l.length : Int) ((j + 1 : Nat) : Int)) (fun k => ?_) (hgo true (by simp [goodItem, h1, h2, h0]))
     simp only [spec_Good.j1]
     rw [if_neg (by simp), if_pos h0, wrap64_nat j (by omega)]
    ·by_cases g1 : x.f1 < lowI i
     ·refine Ev.done fun k => ?_
      simp only [spec_Good.j1, low_some, Option.bind_some]
      rw [if_neg (by simp), if_neg h0, if_pos g1]
      have : goodItem i x = false := by simp [goodItem, h1, h2, h0]; omega
      simp [this]
     ·by_cases g2 : x.f2 > highI i
      ·refine Ev.done fun k => ?_
       simp only [spec_Good.j1, low_some, high_some i hi, Option.bind_some]
       rw [if_neg (by simp), if_neg h0, if_neg g1, if_pos g2]
       have : goodItem i x = false := by simp [goodItem, h1, h2, h0]; omega
       simp [this]
      ·by_cases g3 : x.f1 > x.f2
       ·refine Ev.done fun k => ?_
        simp only [spec_Good.j1, low_some, high_some i hi, Option.bind_some]
        rw [if_neg (by simp), if_neg h0, if_neg g1, if_neg g2, if_pos g3]
        have : goodItem i x = false := by simp [goodItem, h1, h2, h0]; omega
        simp [this]
       ·refine Ev.step (f := fun k => spec_Good.l0 k (i : Int) l l (l.length : Int) ((j + 1 : Nat) : Int)) (fun k => ?_) (hgo true (by simp [goodItem, h1, h2, h0]; omega))
        simp only [spec_Good.j1, low_some, high_some i hi, Option.bind_some]
        rw [if_neg (by simp), if_neg h0, if_neg g1, if_neg g2, if_neg g3, wrap64_nat j (by omega)]
theorem good_ev (i : Nat) (hi : i < 6) (l : List It) (hl : l.length < 4611686018427387904) : Ev (fun k => spec_Good.f k (i : Int) l) (goodF i l) :=
 good_from i hi l hl l 0 rfl (Nat.zero_le _)
def starF (l : List It) : Bool := match l with | [x] => x.f0 && x.f3 == 1 | _ => false
theorem star_some (l : List It) : spec_Star.f l = some (starF l) := by
 unfold spec_Star.f starF
 match l with
 | [] => rfl
 | [x] =>
  rw [if_pos (by simp), if_pos (by simp)]
  have : rd_T38 [x] 0 = x := rfl
  rw [this]
  by_cases h : x.f0 = true
  ·rw [if_pos h]; simp [h]
  ·rw [if_neg h]; simp [h]
 | x :: y :: t => rw [if_neg (by simp; omega)]
def zeroF (l : List It) : Bool := match l with | [x] => !x.f0 && x.f1 == 0 && x.f2 == 0 && x.f3 == 1 | _ => false
def restE (f0 f3 f4 f5 : List It) (secs : Bool) : Bool := (secs || zeroF f0) && (starF f3 || starF f5) && (starF f4 || f3.all fun x => x.f0 || decide (x.f1 ≤ 28))
def goodE (Fs : List (List It)) (secs : Bool) : Bool := match Fs with
 | [f0, f1, f2, f3, f4, f5] => goodF 0 f0 && (goodF 1 f1 && (goodF 2 f2 && (goodF 3 f3 && (goodF 4 f4 && (goodF 5 f5 && restE f0 f3 f4 f5 secs)))))
 | _ => false
theorem exprGood_l1 (l : List It) (hl : l.length < 4611686018427387904) :
  ∀ (rest : List It) (j : Nat), l.drop j = rest → j ≤ l.length → Ev (fun k => spec_ExprGood.l1 k l (l.length : Int) (j : Int)) (rest.all fun x => x.f0 || decide (x.f1 ≤ 28)) := by
 intro rest
 induction rest with
 | nil =>
  intro j hj hjl
  have hlen : l.length ≤ j := List.drop_eq_nil_iff.1 hj
  refine Ev.done fun k => ?_
  simp only [spec_ExprGood.l1]
  rw [if_neg (by omega)]
  rfl
 | cons x t ih =>
  intro j hj hjl
  have hlt : j < l.length := by
   rcases Nat.lt_or_ge j l.length with h | h
   ·exact h
   ·rw [List.drop_eq_nil_of_le h] at hj; cases hj
  have hx : l[j] = x := by
   have := List.drop_eq_getElem_cons hlt
   rw [hj] at this
   exact (List.cons.inj this).1.symm
  have ht : l.drop (j + 1) = t := by rw [← List.drop_drop, hj]; rfl
  have hrd := rdI_at l j hlt
  rw [hx] at hrd
  have hrec := ih (j + 1) ht (by omega)
  rw [List.all_cons]
  by_cases h0 : x.f0 = true
  ·rw [h0, Bool.true_or, Bool.true_and]
   refine Ev.step (f := fun k => spec_ExprGood.l1 k l (l.length : Int) ((j + 1 : Nat) : Int)) (fun k => ?_) hrec
   simp only [spec_ExprGood.l1, hrd]
   rw [if_pos (by omega), if_pos (by omega), if_pos (by omega), if_pos h0, wrap64_nat j (by omega)]
  ·rw [show x.f0 = false from by simpa using h0, Bool.false_or]
   by_cases h1 : x.f1 > 28
   ·rw [show decide (x.f1 ≤ 28) = false from decide_eq_false (by omega), Bool.false_and]
    refine Ev.done fun k => ?_
    simp only [spec_ExprGood.l1, hrd]
    rw [if_pos (by omega), if_pos (by omega), if_pos (by omega), if_neg h0, if_pos h1]
   ·rw [show decide (x.f1 ≤ 28) = true from decide_eq_true (by omega), Bool.true_and]
    refine Ev.step (f := fun k => spec_ExprGood.l1 k l (l.length : Int) ((j + 1 : Nat) : Int)) (fun k => ?_) hrec
    simp only [spec_ExprGood.l1, hrd]
    rw [if_pos (by omega), if_pos (by omega), if_pos (by omega), if_neg h0, if_neg h1, wrap64_nat j (by omega)]
section
variable (f0 f1 f2 f3 f4 f5 : List It) (secs : Bool)
theorem exprGood_j2 (h3 : f3.length < 4611686018427387904) (b : Bool) :
  Ev (fun k => spec_ExprGood.j2 k b [f0, f1, f2, f3, f4, f5] secs) (!b && (starF f4 || f3.all fun x => x.f0 || decide (x.f1 ≤ 28))) := by
 have e4 : rd_L5 [f0, f1, f2, f3, f4, f5] 4 = f4 := rfl
 have e3 : rd_L5 [f0, f1, f2, f3, f4, f5] 3 = f3 := rfl
 cases b with
 | true =>
  refine Ev.done fun k => ?_
  simp only [spec_ExprGood.j2]
  rw [if_pos trivial]
  rfl
 | false =>
  cases h : starF f4 with
  | true =>
   refine Ev.done fun k => ?_
   simp only [spec_ExprGood.j2, e4, star_some, Option.bind_some, h]
   rw [if_neg (by simp), if_pos (by simp), if_pos trivial]
   rfl
  | false =>
   refine Ev.step (f := fun k => spec_ExprGood.l1 k f3 (f3.length : Int) ((0 : Nat) : Int)) (fun k => ?_) (Ev.eq _ (exprGood_l1 f3 h3 f3 0 rfl (Nat.zero_le _)) (by simp))
   simp only [spec_ExprGood.j2, e4, e3, star_some, Option.bind_some, h]
   rw [if_neg (by simp), if_pos (by simp), if_neg (by simp), if_pos (by simp)]
   rfl
theorem exprGood_j1 (h3 : f3.length < 4611686018427387904) (b : Bool) :
  Ev (fun k => spec_ExprGood.j1 k b [f0, f1, f2, f3, f4, f5] secs) (!b && (starF f3 || starF f5) && (starF f4 || f3.all fun x => x.f0 || decide (x.f1 ≤ 28))) := by
 have e3 : rd_L5 [f0, f1, f2, f3, f4, f5] 3 = f3 := rfl
 have e5 : rd_L5 [f0, f1, f2, f3, f4, f5] 5 = f5 := rfl
 cases b with
 | true =>
  refine Ev.done fun k => ?_
  simp only [spec_ExprGood.j1]
  rw [if_pos trivial]
  rfl
 | false =>
  cases h : starF f3 with
  | true =>
   refine Ev.step (f := fun k => spec_ExprGood.j2 k false [f0, f1, f2, f3, f4, f5] secs) (fun k => ?_) (exprGood_j2 f0 f1 f2 f3 f4 f5 secs h3 false)
   simp only [spec_ExprGood.j1, e3, star_some, Option.bind_some, h]
   rw [if_neg (by simp), if_pos (by simp), if_pos trivial]
  | false =>
   refine Ev.step (f := fun k => spec_ExprGood.j2 k (!starF f5) [f0, f1, f2, f3, f4, f5] secs) (fun k => ?_) (Ev.eq _ (exprGood_j2 f0 f1 f2 f3 f4 f5 secs h3 (!starF f5)) (by simp))
   simp only [spec_ExprGood.j1, e3, e5, star_some, Option.bind_some, h]
   rw [if_neg (by simp), if_pos (by simp), if_neg (by simp), if_pos (by simp)]
theorem exprGood_rest (h3 : f3.length < 4611686018427387904) :
  Ev (fun k => spec_ExprGood.l0 k [f0, f1, f2, f3, f4, f5] 6 6 [f0, f1, f2, f3, f4, f5] secs) (restE f0 f3 f4 f5 secs) := by
 have e0 : rd_L5 [f0, f1, f2, f3, f4, f5] 0 = f0 := rfl
 unfold restE
 cases secs with
 | true =>
  refine Ev.step (f := fun k => spec_ExprGood.j1 k false [f0, f1, f2, f3, f4, f5] true) (fun k => ?_) (exprGood_j1 f0 f1 f2 f3 f4 f5 true h3 false)
  simp only [spec_ExprGood.l0]
  rw [if_neg (by simp), if_pos trivial]
 | false =>
  refine Ev.step (f := fun k => spec_ExprGood.j1 k (!zeroF f0) [f0, f1, f2, f3, f4, f5] false) (fun k => ?_) (Ev.eq _ (exprGood_j1 f0 f1 f2 f3 f4 f5 false h3 (!zeroF f0)) (by simp))
  simp only [spec_ExprGood.l0, e0]
  rw [if_neg (by simp), if_neg (by simp), if_pos (by simp)]
  match f0 with
  | [] => rfl
  | [x] =>
   rw [if_pos (by simp), if_pos (by simp)]
   have : rd_T38 [x] 0 = x := rfl
   rw [this]
   congr 1
   simp [zeroF, Bool.not_and, Bool.or_assoc]
  | x :: y :: t => rw [if_neg (by simp; omega)]; rfl
theorem exprGood_six (h : ∀ l ∈ [f0, f1, f2, f3, f4, f5], l.length < 4611686018427387904) : Ev (fun k => spec_ExprGood.f k [f0, f1, f2, f3, f4, f5] secs) (goodE [f0, f1, f2, f3, f4, f5] secs) := by
 have step : ∀ (j : Nat) (l : List It) (b : Bool), j < 6 → l.length < 4611686018427387904 → rd_L5 [f0, f1, f2, f3, f4, f5] (j : Int) = l →
   Ev (fun k => spec_ExprGood.l0 k [f0, f1, f2, f3, f4, f5] 6 ((j + 1 : Nat) : Int) [f0, f1, f2, f3, f4, f5] secs) b →
   Ev (fun k => spec_ExprGood.l0 k [f0, f1, f2, f3, f4, f5] 6 (j : Int) [f0, f1, f2, f3, f4, f5] secs) (goodF j l && b) := by
  intro j l b hj hl hrd hrec
  refine Ev.step (f := fun k => (spec_Good.f k (j : Int) l).bind fun t => if t = true then spec_ExprGood.l0 k [f0, f1, f2, f3, f4, f5] 6 ((j + 1 : Nat) : Int) [f0, f1, f2, f3, f4, f5] secs else some false) (fun k => ?_) (Ev.bind (good_ev j hj l hl) ?_)
  ·simp only [spec_ExprGood.l0, hrd]
   rw [if_pos (by omega), if_pos (by omega), if_pos (by simp; omega), wrap64_nat j (by omega)]
  ·cases goodF j l with
   | true => exact Ev.congr (f := fun k => spec_ExprGood.l0 k [f0, f1, f2, f3, f4, f5] 6 ((j + 1 : Nat) : Int) [f0, f1, f2, f3, f4, f5] secs) (fun k => if_pos rfl) (by simpa using hrec)
   | false => exact Ev.const (by simp)
 unfold goodE
 refine Ev.congr (f := fun k => spec_ExprGood.l0 k [f0, f1, f2, f3, f4, f5] 6 ((0 : Nat) : Int) [f0, f1, f2, f3, f4, f5] secs) (fun k => by unfold spec_ExprGood.f; rw [if_pos (by simp)]; rfl) ?_
 exact step 0 f0 _ (by omega) (h _ (by simp)) rfl (step 1 f1 _ (by omega) (h _ (by simp)) rfl (step 2 f2 _ (by omega) (h _ (by simp)) rfl (step 3 f3 _ (by omega) (h _ (by simp)) rfl (step 4 f4 _ (by omega) (h _ (by simp)) rfl (step 5 f5 _ (by omega) (h _ (by simp)) rfl
  (exprGood_rest f0 f1 f2 f3 f4 f5 secs (h _ (by simp))))))))
end
theorem exprGood_ev (Fs : List (List It)) (secs : Bool) (h : ∀ l ∈ Fs, l.length < 4611686018427387904) : Ev (fun k => spec_ExprGood.f k Fs secs) (goodE Fs secs) := by
 by_cases h6 : Fs.length = 6
 ·match Fs, h6 with
  | [f0, f1, f2, f3, f4, f5], _ => exact exprGood_six f0 f1 f2 f3 f4 f5 secs h
 ·have : goodE Fs secs = false := by
   match Fs with
   | [] | [_] | [_, _] | [_, _, _] | [_, _, _, _] | [_, _, _, _, _] => rfl
   | [_, _, _, _, _, _] => simp at h6
   | _ :: _ :: _ :: _ :: _ :: _ :: _ :: _ => rfl
  rw [this]
  exact Ev.congr (f := fun _ => some false) (fun k => by unfold spec_ExprGood.f; rw [if_neg (by omega)]) (Ev.const rfl)
def digits10 : List UInt8 := [48, 49, 50, 51, 52, 53, 54, 55, 56, 57]
theorem digit_cut (n : Nat) (h : n < 10) : (B digits10).extract n (n + 1) = B [UInt8.ofNat (48 + n)] := by
 rw [B_cut]
 have : ∀ n, n < 10 → (digits10.drop n).take (n + 1 - n) = [UInt8.ofNat (48 + n)] := by decide
 rw [this n h]
theorem decimal_ev (m : Nat) : ∀ n : Nat, n < 10 ^ (m + 1) → m < 17 → Ev (fun k => spec_Decimal.f k (n : Int)) (B (decN n)) := by
 have base : ∀ n : Nat, n < 10 → Ev (fun k => spec_Decimal.f k (n : Int)) (B (decN n)) := by
  intro n h
  refine Ev.done fun k => ?_
  simp only [spec_Decimal.f]
  rw [if_pos (by omega), if_pos (by omega), wrap64_id (by omega) (by omega), if_pos (by omega), if_pos (by omega), decN_lt n h]
  have := digit_cut n h
  rw [show ((n : Int)).toNat = n by omega, show ((n : Int) + 1).toNat = n + 1 by omega]
  exact congrArg some this
 induction m with
 | zero => intro n h _; exact base n (by simpa using h)
 | succ m ih =>
  intro n h hm
  by_cases h10 : n < 10
  ·exact base n h10
  ·have hq : n / 10 < 10 ^ (m + 1) := by rw [Nat.div_lt_iff_lt_mul (by omega)]; rw [Nat.pow_succ] at h; exact h
   have hn : n < 10 ^ 18 := Nat.lt_of_lt_of_le h (Nat.pow_le_pow_right (by omega) (by omega))
   have hn' : n < 1000000000000000000 := by simpa using hn
   have e1 : wrap64 (Int.tdiv (n : Int) 10) = ((n / 10 : Nat) : Int) := by
    rw [Int.tdiv_eq_ediv_of_nonneg (by omega), wrap64_id (by omega) (by omega)]; rfl
   have e2 : Int.tmod (n : Int) 10 = ((n % 10 : Nat) : Int) := by rw [Int.tmod_eq_emod_of_nonneg (by omega)]; rfl
   have l1 := decN_length (n / 10) m hq
   refine Ev.step (f := fun k => (spec_Decimal.f k ((n / 10 : Nat) : Int)).bind fun t => (spec_Decimal.f k ((n % 10 : Nat) : Int)).bind fun u => if t.size + u.size ≤ 9223372036854775807 then some (t ++ u) else none) (fun k => ?_) (Ev.bind (ih (n / 10) hq (by omega)) (Ev.bind (base (n % 10) (by omega)) (Ev.const ?_)))
   ·simp only [spec_Decimal.f]
    rw [if_neg (by omega), e1, e2]
   ·rw [B_size, B_size, decN_lt (n % 10) (by omega), if_pos (by simp; omega), B_app, decN_ge n h10]
theorem dec_ev (n : Int) (h0 : 0 ≤ n) (h : n < 100000) : Ev (fun k => spec_Decimal.f k n) (B (decN n.toNat)) := by
 have := decimal_ev 4 n.toNat (by simp; omega) (by omega)
 rwa [show ((n.toNat : Nat) : Int) = n by omega] at this
theorem decN_two (n : Nat) (h : n < 100) : (decN n).length ≤ 2 := decN_length n 1 (by simpa using h)
def stepL (s : Int) : List UInt8 := if 1 < s then 47 :: decN s.toNat else []
def itemL (x : It) : List UInt8 := if x.f0 then 42 :: stepL x.f3 else decN x.f1.toNat ++ ((if x.f1 < x.f2 ∨ 1 < x.f3 then 45 :: decN x.f2.toNat else []) ++ stepL x.f3)
theorem goodItem_spec {i : Nat} {x : It} (h : goodItem i x = true) : 1 ≤ x.f3 ∧ x.f3 ≤ 60 ∧ (x.f0 = false → 0 ≤ x.f1 ∧ x.f2 ≤ 59 ∧ x.f1 ≤ x.f2 ∧ lowI i ≤ x.f1 ∧ x.f2 ≤ highI i) := by
 unfold goodItem at h
 simp only [Bool.and_eq_true, decide_eq_true_eq, Bool.or_eq_true] at h
 refine ⟨h.1.1, h.1.2, fun h0 => ?_⟩
 have hl := lowI_ge i
 have hh := highI_le i
 rcases h.2 with h2 | h2
 ·rw [h0] at h2; cases h2
 ·exact ⟨by omega, by omega, h2.2, h2.1.1, h2.1.2⟩
theorem stepL_length (s : Int) (h : s ≤ 60) : (stepL s).length ≤ 3 := by
 unfold stepL
 split
 ·have := decN_two s.toNat (by omega); simp; omega
 ·simp
theorem item_ev {i : Nat} {x : It} (h : goodItem i x = true) : Ev (fun k => spec_ItemText.f k x.f0 x.f1 x.f2 x.f3) (B (itemL x)) := by
 obtain ⟨s1, s2, hr⟩ := goodItem_spec h
 have hst : ∀ (p : List UInt8), p.length ≤ 10 → ∀ f : Bool, Ev (fun k => if x.f3 > 1 then ((spec_Decimal.f k x.f3).bind fun t => (if 1 + t.size ≤ 9223372036854775807 then (if (B p).size + ((⟨#[47]⟩ : ByteArray) ++ t).size ≤ 9223372036854775807 then (some (B p ++ ((⟨#[47]⟩ : ByteArray) ++ t))) else (none)) else (none))) else some (B p)) (B (p ++ stepL x.f3)) := by
  intro p hp _
  unfold stepL
  by_cases h3 : 1 < x.f3
  ·rw [if_pos h3]
   refine Ev.congr (f := fun k => (spec_Decimal.f k x.f3).bind fun t => (if 1 + t.size ≤ 9223372036854775807 then (if (B p).size + ((⟨#[47]⟩ : ByteArray) ++ t).size ≤ 9223372036854775807 then (some (B p ++ ((⟨#[47]⟩ : ByteArray) ++ t))) else (none)) else (none))) (fun k => if_pos h3) (Ev.bind (dec_ev x.f3 (by omega) (by omega)) (Ev.const ?_))
   have := decN_two x.f3.toNat (by omega)
   rw [show (⟨#[47]⟩ : ByteArray) = B [47] from rfl, B_app, B_size, B_size, B_size, if_pos (by omega), if_pos (by simp; omega), B_app]
   rfl
  ·rw [if_neg h3]
   exact Ev.congr (f := fun _ => some (B p)) (fun k => if_neg (by omega)) (Ev.const (by simp))
 unfold itemL
 cases h0 : x.f0 with
 | true =>
  rw [if_pos rfl]
  refine Ev.congr (f := fun k => if x.f3 > 1 then ((spec_Decimal.f k x.f3).bind fun t => (if 1 + t.size ≤ 9223372036854775807 then (if (B [42]).size + ((⟨#[47]⟩ : ByteArray) ++ t).size ≤ 9223372036854775807 then (some (B [42] ++ ((⟨#[47]⟩ : ByteArray) ++ t))) else (none)) else (none))) else some (B [42])) (fun k => ?_) (hst [42] (by simp) true)
  unfold spec_ItemText.f
  rw [if_pos rfl]
  rfl
 | false =>
  obtain ⟨r1, r2, r3, _, _⟩ := hr h0
  rw [if_neg (by simp)]
  have l1 := decN_two x.f1.toNat (by omega)
  have l2 := decN_two x.f2.toNat (by omega)
  have hj : ∀ b : Bool, b = decide (x.f1 < x.f2 ∨ 1 < x.f3) → Ev (fun k => spec_ItemText.j0 k (B (decN x.f1.toNat)) b false x.f1 x.f2 x.f3) (B (decN x.f1.toNat ++ ((if x.f1 < x.f2 ∨ 1 < x.f3 then 45 :: decN x.f2.toNat else []) ++ stepL x.f3))) := by
   intro b hb
   by_cases hc : x.f1 < x.f2 ∨ 1 < x.f3
   ·rw [decide_eq_true hc] at hb
    subst hb
    rw [if_pos hc]
    refine Ev.step (f := fun k => (spec_Decimal.f k x.f2).bind fun t => if t = B (decN x.f2.toNat) then (if x.f3 > 1 then ((spec_Decimal.f k x.f3).bind fun t => (if 1 + t.size ≤ 9223372036854775807 then (if (B (decN x.f1.toNat ++ 45 :: decN x.f2.toNat)).size + ((⟨#[47]⟩ : ByteArray) ++ t).size ≤ 9223372036854775807 then (some (B (decN x.f1.toNat ++ 45 :: decN x.f2.toNat) ++ ((⟨#[47]⟩ : ByteArray) ++ t))) else (none)) else (none))) else some (B (decN x.f1.toNat ++ 45 :: decN x.f2.toNat))) else spec_ItemText.j0 (k + 1) (B (decN x.f1.toNat)) true false x.f1 x.f2 x.f3) (fun k => ?_) (Ev.bind (dec_ev x.f2 (by omega) (by omega)) ?_)
    ·cases hg : spec_Decimal.f k x.f2 with
     | none => simp only [spec_ItemText.j0, hg]; rw [if_pos trivial]; rfl
     | some t =>
      simp only [Option.bind_some]
      by_cases ht : t = B (decN x.f2.toNat)
      ·rw [if_pos ht]
       subst ht
       simp only [spec_ItemText.j0, hg, Option.bind_some]
       rw [if_pos trivial, show (⟨#[45]⟩ : ByteArray) = B [45] from rfl, B_app, if_pos (by rw [B_size]; omega), if_pos (by rw [B_size, B_size]; simp; omega), B_app]
       rfl
      ·rw [if_neg ht]
    ·refine Ev.congr (f := fun k => if x.f3 > 1 then ((spec_Decimal.f k x.f3).bind fun t => (if 1 + t.size ≤ 9223372036854775807 then (if (B (decN x.f1.toNat ++ 45 :: decN x.f2.toNat)).size + ((⟨#[47]⟩ : ByteArray) ++ t).size ≤ 9223372036854775807 then (some (B (decN x.f1.toNat ++ 45 :: decN x.f2.toNat) ++ ((⟨#[47]⟩ : ByteArray) ++ t))) else (none)) else (none))) else some (B (decN x.f1.toNat ++ 45 :: decN x.f2.toNat))) (fun k => if_pos rfl) ?_
     have := hst (decN x.f1.toNat ++ 45 :: decN x.f2.toNat) (by simp; omega) true
     rwa [List.append_assoc] at this
   ·rw [decide_eq_false hc] at hb
    subst hb
    rw [if_neg hc]
    refine Ev.step (f := fun k => if x.f3 > 1 then ((spec_Decimal.f k x.f3).bind fun t => (if 1 + t.size ≤ 9223372036854775807 then (if (B (decN x.f1.toNat)).size + ((⟨#[47]⟩ : ByteArray) ++ t).size ≤ 9223372036854775807 then (some (B (decN x.f1.toNat) ++ ((⟨#[47]⟩ : ByteArray) ++ t))) else (none)) else (none))) else some (B (decN x.f1.toNat))) (fun k => ?_) (hst (decN x.f1.toNat) (by omega) true)
    simp only [spec_ItemText.j0]
    rw [if_neg (by simp)]
  refine Ev.congr (f := fun k => (spec_Decimal.f k x.f1).bind fun t => if x.f2 > x.f1 then spec_ItemText.j0 k t true false x.f1 x.f2 x.f3 else spec_ItemText.j0 k t (decide (x.f3 > 1)) false x.f1 x.f2 x.f3) (fun k => ?_) (Ev.bind (dec_ev x.f1 (by omega) (by omega)) ?_)
  ·unfold spec_ItemText.f
   rw [if_neg (by simp)]
  ·by_cases h12 : x.f1 < x.f2
   ·exact Ev.congr (f := fun k => spec_ItemText.j0 k (B (decN x.f1.toNat)) true false x.f1 x.f2 x.f3) (fun k => if_pos h12) (hj true (by simp [h12]))
   ·exact Ev.congr (f := fun k => spec_ItemText.j0 k (B (decN x.f1.toNat)) (decide (x.f3 > 1)) false x.f1 x.f2 x.f3) (fun k => if_neg h12) (hj _ (by simp [h12]))
theorem itemL_length {i : Nat} {x : It} (h : goodItem i x = true) : (itemL x).length ≤ 8 := by
 obtain ⟨s1, s2, hr⟩ := goodItem_spec h
 have hs := stepL_length x.f3 s2
 unfold itemL
 cases h0 : x.f0 with
 | true => simp; omega
 | false =>
  obtain ⟨r1, r2, r3, _, _⟩ := hr h0
  have l1 := decN_two x.f1.toNat (by omega)
  have l2 := decN_two x.f2.toNat (by omega)
  simp
  split <;> simp <;> omega
def joinL (c : UInt8) : List (List UInt8) → List UInt8
 | [] => []
 | [x] => x
 | x :: y :: t => x ++ c :: joinL c (y :: t)
theorem joinL_snoc (c : UInt8) (l : List (List UInt8)) (x : List UInt8) (h : l ≠ []) : joinL c (l ++ [x]) = joinL c l ++ c :: x := by
 induction l with
 | nil => exact absurd rfl h
 | cons a t ih =>
  cases t with
  | nil => rfl
  | cons b t =>
   rw [List.cons_append, List.cons_append, joinL, ← List.cons_append, ih (by simp), joinL]
   simp
theorem joinL_length (c : UInt8) (l : List (List UInt8)) (m : Nat) (h : ∀ x ∈ l, x.length ≤ m) : (joinL c l).length ≤ l.length * (m + 1) := by
 induction l with
 | nil => simp [joinL]
 | cons a t ih =>
  have ha := h a (by simp)
  cases t with
  | nil => simp [joinL]; omega
  | cons b t =>
   have := ih (fun x hx => h x (by simp [hx]))
   rw [joinL, List.length_append, List.length_cons, List.length_cons, Nat.succ_mul]
   omega
def fieldL (l : List It) : List UInt8 := joinL 44 (l.map itemL)
theorem goodF_spec {i : Nat} {l : List It} (h : goodF i l = true) : (∀ x ∈ l, goodItem i x = true) ∧ 1 ≤ l.length ∧ l.length ≤ 6 := by
 unfold goodF at h
 simp only [Bool.and_eq_true, decide_eq_true_eq, List.all_eq_true] at h
 exact ⟨h.1.1, h.1.2, h.2⟩
theorem fieldL_length {i : Nat} {l : List It} (h : goodF i l = true) : (fieldL l).length ≤ 54 := by
 obtain ⟨hg, h1, h6⟩ := goodF_spec h
 have := joinL_length 44 (l.map itemL) 8 (by intro z hz; obtain ⟨y, hy, rfl⟩ := List.mem_map.1 hz; exact itemL_length (hg y hy))
 rw [List.length_map] at this
 unfold fieldL
 omega
theorem field_from {i : Nat} (l : List It) (hg : ∀ x ∈ l, goodItem i x = true) (h6 : l.length ≤ 6) :
  ∀ (rest : List It) (j : Nat), l.drop j = rest → j ≤ l.length → Ev (fun k => spec_FieldText.l0 k (B (joinL 44 ((l.take j).map itemL))) l (l.length : Int) (j : Int)) (B (fieldL l)) := by
 intro rest
 induction rest with
 | nil =>
  intro j hj hjl
  have hlen : l.length ≤ j := List.drop_eq_nil_iff.1 hj
  refine Ev.done fun k => ?_
  simp only [spec_FieldText.l0]
  rw [if_neg (by omega), List.take_of_length_le hlen]
  rfl
 | cons x t ih =>
  intro j hj hjl
  have hlt : j < l.length := by
   rcases Nat.lt_or_ge j l.length with h | h
   ·exact h
   ·rw [List.drop_eq_nil_of_le h] at hj; cases hj
  have hx : l[j] = x := by
   have := List.drop_eq_getElem_cons hlt
   rw [hj] at this
   exact (List.cons.inj this).1.symm
  have ht : l.drop (j + 1) = t := by rw [← List.drop_drop, hj]; rfl
  have hrd := rdI_at l j hlt
  rw [hx] at hrd
  have hgx := hg x (by rw [← hx]; exact List.getElem_mem hlt)
  have hlx := itemL_length hgx
  have hbound : (joinL 44 ((l.take j).map itemL)).length ≤ 54 := by
   have := joinL_length 44 ((l.take j).map itemL) 8 (by intro z hz; obtain ⟨y, hy, rfl⟩ := List.mem_map.1 hz; exact itemL_length (hg y (List.mem_of_mem_take hy)))
   rw [List.length_map, List.length_take] at this
   omega
  have hrec := ih (j + 1) ht (by omega)
  rw [List.take_succ_eq_append_getElem hlt, List.map_append, hx, List.map_singleton] at hrec
  by_cases h0 : j = 0
  ·subst h0
   refine Ev.step (f := fun k => (spec_ItemText.f k x.f0 x.f1 x.f2 x.f3).bind fun t => if t.size ≤ 9223372036854775807 then spec_FieldText.l0 k (B [] ++ t) l (l.length : Int) ((0 + 1 : Nat) : Int) else none) (fun k => ?_) (Ev.bind (item_ev hgx) ?_)
   ·simp only [spec_FieldText.l0, hrd]
    rw [if_pos (by omega), if_pos (by omega), if_pos (by omega), if_neg (by omega), wrap64_nat 0 (by omega)]
    simp [joinL, B_size]
   ·refine Ev.congr (f := fun k => spec_FieldText.l0 k (B (joinL 44 ([] ++ [itemL x]))) l (l.length : Int) ((0 + 1 : Nat) : Int)) (fun k => ?_) (by simpa using hrec)
    rw [if_pos (by rw [B_size]; omega), B_app]
    rfl
  ·have hnn : (l.take j).map itemL ≠ [] := by
    intro e
    have := congrArg List.length e
    rw [List.length_map, List.length_take, List.length_nil] at this
    omega
   rw [joinL_snoc _ _ _ hnn] at hrec
   refine Ev.step (f := fun k => (spec_ItemText.f k x.f0 x.f1 x.f2 x.f3).bind fun t => if (B (joinL 44 ((l.take j).map itemL ++ [[]]))).size + t.size ≤ 9223372036854775807 then spec_FieldText.l0 k (B (joinL 44 ((l.take j).map itemL ++ [[]])) ++ t) l (l.length : Int) ((j + 1 : Nat) : Int) else none) (fun k => ?_) (Ev.bind (item_ev hgx) ?_)
   ·simp only [spec_FieldText.l0, hrd]
    rw [if_pos (by omega), if_pos (by omega), if_pos (by omega), if_pos (by omega), wrap64_nat j (by omega), if_pos (by rw [B_size]; omega), show (⟨#[44]⟩ : ByteArray) = B [44] from rfl, B_app, joinL_snoc _ _ _ hnn]
   ·refine Ev.congr (f := fun k => spec_FieldText.l0 k (B (joinL 44 ((l.take j).map itemL) ++ 44 :: itemL x)) l (l.length : Int) ((j + 1 : Nat) : Int)) (fun k => ?_) (by simpa using hrec)
    rw [joinL_snoc _ _ _ hnn, if_pos (by rw [B_size, B_size, List.length_append, List.length_singleton]; omega), B_app]
    simp
theorem field_ev {i : Nat} {l : List It} (h : goodF i l = true) : Ev (fun k => spec_FieldText.f k l) (B (fieldL l)) := by
 obtain ⟨hg, h1, h6⟩ := goodF_spec h
 exact field_from l hg h6 l 0 rfl (Nat.zero_le _)
theorem rdF_at (l : List (List It)) (j : Nat) (h : j < l.length) : rd_L5 l (j : Int) = l[j] := by
 simp [rd_L5, h]
theorem joinL_ne (c : UInt8) (l : List (List UInt8)) (h : l ≠ []) (hx : ∀ x ∈ l, x ≠ []) : joinL c l ≠ [] := by
 match l with
 | [] => exact absurd rfl h
 | [x] => exact hx x (by simp)
 | x :: y :: t => rw [joinL]; simp
theorem itemL_ne (x : It) : itemL x ≠ [] := by
 unfold itemL
 split
 ·simp
 ·have := decN_ne x.f1.toNat
  simp [this]
theorem fieldL_ne {i : Nat} {l : List It} (h : goodF i l = true) : fieldL l ≠ [] := by
 obtain ⟨hg, h1, h6⟩ := goodF_spec h
 refine joinL_ne _ _ ?_ ?_
 ·intro e
  have := congrArg List.length e
  simp at this
  rw [this] at h1
  simp at h1
 ·intro x hx
  obtain ⟨y, _, rfl⟩ := List.mem_map.1 hx
  exact itemL_ne y
def written (Fs : List (List It)) (secs : Bool) : List (List It) := if secs then Fs else Fs.drop 1
def textL (Fs : List (List It)) (secs : Bool) : List UInt8 := joinL 32 ((written Fs secs).map fieldL)
def GoodFs (Fs : List (List It)) : Prop := Fs.length = 6 ∧ ∀ (j : Nat) (h : j < Fs.length), goodF j Fs[j] = true
theorem written_take (Fs : List (List It)) (secs : Bool) (j : Nat) (h : j < Fs.length) (hw : secs = true ∨ 0 < j) :
  written (Fs.take (j + 1)) secs = written (Fs.take j) secs ++ [Fs[j]] := by
 unfold written
 rw [List.take_succ_eq_append_getElem h]
 cases secs with
 | true => rfl
 | false =>
  simp at hw
  rw [if_neg (by simp), if_neg (by simp), List.drop_append, show 1 - (List.take j Fs).length = 0 by rw [List.length_take]; omega]
  rfl
theorem text_from (Fs : List (List It)) (secs : Bool) (hF : GoodFs Fs) :
  ∀ (d j : Nat), 6 - j = d → j ≤ 6 → Ev (fun k => spec_Text.l0 k (B (joinL 32 ((written (Fs.take j) secs).map fieldL))) Fs 6 (j : Int) Fs secs) (B (textL Fs secs)) := by
 obtain ⟨h6, hg⟩ := hF
 intro d
 induction d with
 | zero =>
  intro j hd hj
  refine Ev.done fun k => ?_
  simp only [spec_Text.l0]
  rw [if_neg (by omega), List.take_of_length_le (by omega)]
  rfl
 | succ d ih =>
  intro j hd hj
  have hlt : j < Fs.length := by omega
  have hgj := hg j hlt
  have hrd := rdF_at Fs j hlt
  have hfl := fieldL_length hgj
  have hrec := ih (j + 1) (by omega) (by omega)
  have hb : (joinL 32 ((written (Fs.take j) secs).map fieldL)).length ≤ 330 := by
   have hall : ∀ x ∈ (written (Fs.take j) secs).map fieldL, x.length ≤ 54 := by
    intro x hx
    obtain ⟨y, hy, rfl⟩ := List.mem_map.1 hx
    have hy2 : y ∈ Fs := by
     unfold written at hy
     split at hy
     ·exact List.mem_of_mem_take hy
     ·exact List.mem_of_mem_take (List.mem_of_mem_drop hy)
    obtain ⟨q, hq, rfl⟩ := List.getElem_of_mem hy2
    exact fieldL_length (hg q hq)
   have := joinL_length 32 _ 54 hall
   have hlen : ((written (Fs.take j) secs).map fieldL).length ≤ 6 := by
    rw [List.length_map]
    unfold written
    split
    ·rw [List.length_take]; omega
    ·rw [List.length_drop, List.length_take]; omega
   have h2 : ((written (Fs.take j) secs).map fieldL).length * (54 + 1) ≤ 6 * (54 + 1) := Nat.mul_le_mul_right _ hlen
   omega
  by_cases hw : secs = true ∨ 0 < j
  ·have e := written_take Fs secs j hlt hw
   rw [e, List.map_append] at hrec
   have hj1 : Ev (fun k => spec_Text.j1 k (B (joinL 32 ((written (Fs.take j) secs).map fieldL))) Fs[j] Fs 6 (j : Int) false Fs secs) (B (textL Fs secs)) := by
    by_cases hnil : (written (Fs.take j) secs).map fieldL = []
    ·rw [hnil] at hrec ⊢
     refine Ev.step (f := fun k => (spec_FieldText.f k Fs[j]).bind fun t => if t.size ≤ 9223372036854775807 then spec_Text.l0 k (B [] ++ t) Fs 6 ((j + 1 : Nat) : Int) Fs secs else none) (fun k => ?_) (Ev.bind (field_ev hgj) ?_)
     ·simp only [spec_Text.j1]
      rw [if_neg (by simp), if_pos (by rw [B_list]; rfl), wrap64_nat j (by omega)]
      simp [joinL, B_size]
     ·refine Ev.congr (f := fun k => spec_Text.l0 k (B (joinL 32 ([] ++ [fieldL Fs[j]]))) Fs 6 ((j + 1 : Nat) : Int) Fs secs) (fun k => ?_) (by simpa using hrec)
      rw [if_pos (by rw [B_size]; omega), B_app]
      rfl
    ·have hne : joinL 32 ((written (Fs.take j) secs).map fieldL) ≠ [] := by
      refine joinL_ne _ _ hnil ?_
      intro x hx
      obtain ⟨y, hy, rfl⟩ := List.mem_map.1 hx
      have hy2 : y ∈ Fs := by
       unfold written at hy
       split at hy
       ·exact List.mem_of_mem_take hy
       ·exact List.mem_of_mem_take (List.mem_of_mem_drop hy)
      obtain ⟨q, hq, rfl⟩ := List.getElem_of_mem hy2
      exact fieldL_ne (hg q hq)
     rw [List.map_singleton, joinL_snoc _ _ _ hnil] at hrec
     refine Ev.step (f := fun k => (spec_FieldText.f k Fs[j]).bind fun t => if (B (joinL 32 ((written (Fs.take j) secs).map fieldL) ++ [32])).size + t.size ≤ 9223372036854775807 then spec_Text.l0 k (B (joinL 32 ((written (Fs.take j) secs).map fieldL) ++ [32]) ++ t) Fs 6 ((j + 1 : Nat) : Int) Fs secs else none) (fun k => ?_) (Ev.bind (field_ev hgj) ?_)
     ·simp only [spec_Text.j1]
      rw [if_neg (by simp), if_neg (by rw [B_list]; exact hne), wrap64_nat j (by omega), if_pos (by rw [B_size]; omega), show (⟨#[32]⟩ : ByteArray) = B [32] from rfl, B_app]
     ·refine Ev.congr (f := fun k => spec_Text.l0 k (B (joinL 32 ((written (Fs.take j) secs).map fieldL) ++ 32 :: fieldL Fs[j])) Fs 6 ((j + 1 : Nat) : Int) Fs secs) (fun k => ?_) hrec
      rw [if_pos (by rw [B_size, B_size]; simp; omega), B_app]
      simp
   refine Ev.step (f := fun k => spec_Text.j1 k (B (joinL 32 ((written (Fs.take j) secs).map fieldL))) Fs[j] Fs 6 (j : Int) false Fs secs) (fun k => ?_) hj1
   simp only [spec_Text.l0, hrd]
   rw [if_pos (by omega), if_pos (by omega), if_pos (by omega)]
   by_cases h0 : j = 0
   ·rw [if_pos (by omega)]
    have : secs = true := by rcases hw with h | h; exact h; omega
    rw [this]
    rfl
   ·rw [if_neg (by omega)]
  ·have hs : secs = false := by
    cases secs
    ·rfl
    ·exact absurd (Or.inl rfl) hw
   have h0 : j = 0 := by omega
   subst h0
   subst hs
   refine Ev.step (f := fun k => spec_Text.j1 k (B []) Fs[0] Fs 6 ((0 : Nat) : Int) true Fs false) (fun k => ?_) (Ev.step (f := fun k => spec_Text.l0 k (B []) Fs 6 ((0 + 1 : Nat) : Int) Fs false) (fun k => ?_) ?_)
   ·simp only [spec_Text.l0, hrd]
    rw [if_pos (by omega), if_pos (by omega), if_pos (by omega), if_pos (by omega)]
    rfl
   ·simp only [spec_Text.j1]
    rw [if_pos trivial, wrap64_nat 0 (by omega)]
   ·have : written (Fs.take (0 + 1)) false = [] := by
     unfold written
     rw [if_neg (by simp), List.drop_eq_nil_of_le (by rw [List.length_take]; omega)]
    rw [this] at hrec
    exact hrec
theorem text_ev (Fs : List (List It)) (secs : Bool) (hF : GoodFs Fs) : Ev (fun k => spec_Text.f k Fs secs) (B (textL Fs secs)) := by
 have h := text_from Fs secs hF 6 0 rfl (by omega)
 unfold spec_Text.f
 rw [hF.1]
 have e : (written (Fs.take 0) secs).map fieldL = [] := by
  unfold written
  cases secs <;> simp
 rw [e] at h
 exact h
theorem goodE_spec {Fs : List (List It)} {secs : Bool} (h : goodE Fs secs = true) :
  ∃ f0 f1 f2 f3 f4 f5, Fs = [f0, f1, f2, f3, f4, f5] ∧ goodF 0 f0 = true ∧ goodF 1 f1 = true ∧ goodF 2 f2 = true ∧ goodF 3 f3 = true ∧ goodF 4 f4 = true ∧ goodF 5 f5 = true ∧ restE f0 f3 f4 f5 secs = true := by
 unfold goodE at h
 split at h
 ·rename_i f0 f1 f2 f3 f4 f5
  simp only [Bool.and_eq_true] at h
  exact ⟨f0, f1, f2, f3, f4, f5, rfl, h.1, h.2.1, h.2.2.1, h.2.2.2.1, h.2.2.2.2.1, h.2.2.2.2.2.1, h.2.2.2.2.2.2⟩
 ·cases h
theorem goodE_fs {Fs : List (List It)} {secs : Bool} (h : goodE Fs secs = true) : GoodFs Fs := by
 obtain ⟨f0, f1, f2, f3, f4, f5, rfl, h0, h1, h2, h3, h4, h5, _⟩ := goodE_spec h
 refine ⟨rfl, fun j hj => ?_⟩
 match j, hj with
 | 0, _ => exact h0
 | 1, _ => exact h1
 | 2, _ => exact h2
 | 3, _ => exact h3
 | 4, _ => exact h4
 | 5, _ => exact h5
 | n + 6, h => simp at h; omega
def PartOk (p : List UInt8) : Prop := p ≠ [] ∧ ∀ b ∈ p, 33 ≤ b.toNat ∧ b.toNat ≤ 63
theorem joinL_mem {c : UInt8} {P : List (List UInt8)} {b : UInt8} (h : b ∈ joinL c P) : b = c ∨ ∃ p ∈ P, b ∈ p := by
 induction P with
 | nil => cases h
 | cons x t ih =>
  cases t with
  | nil => exact Or.inr ⟨x, by simp, h⟩
  | cons y t =>
   rw [joinL] at h
   rcases List.mem_append.1 h with h | h
   ·exact Or.inr ⟨x, by simp, h⟩
   ·rcases List.mem_cons.1 h with h | h
    ·exact Or.inl h
    ·rcases ih h with h | ⟨p, hp, h⟩
     ·exact Or.inl h
     ·exact Or.inr ⟨p, by simp [hp], h⟩
theorem splitL_join (c : UInt8) (P : List (List UInt8)) (h : P ≠ []) (hc : ∀ p ∈ P, c ∉ p) : splitL c (joinL c P) = P := by
 induction P with
 | nil => exact absurd rfl h
 | cons x t ih =>
  cases t with
  | nil => exact splitL_none c x (hc x (by simp))
  | cons y t => rw [joinL, splitL_at c x _ (hc x (by simp)), ih (by simp) (fun p hp => hc p (by simp [hp]))]
theorem noDbl_part (p r : List UInt8) (hp : ∀ b ∈ p, b ≠ 32) (hr : noDbl r = true) : noDbl (p ++ r) = true := by
 induction p with
 | nil => exact hr
 | cons a t ih =>
  have ha : (a == 32) = false := by simpa using hp a (by simp)
  have := ih (fun b hb => hp b (by simp [hb]))
  rw [List.cons_append]
  match h : t ++ r with
  | [] => rfl
  | b :: s => rw [h] at this; simp [noDbl, ha, this]
theorem noDbl_join (P : List (List UInt8)) (hP : ∀ p ∈ P, PartOk p) : noDbl (joinL 32 P) = true := by
 have h32 : ∀ p ∈ P, ∀ b ∈ p, b ≠ 32 := by
  intro p hp b hb e
  have := (hP p hp).2 b hb
  rw [e] at this
  simp at this
 induction P with
 | nil => rfl
 | cons x t ih =>
  cases t with
  | nil => have := noDbl_part x [] (h32 x (by simp)) rfl; simpa [joinL] using this
  | cons y t =>
   rw [joinL]
   refine noDbl_part x _ (h32 x (by simp)) ?_
   have hrec := ih (fun p hp => hP p (by simp [hp])) (fun p hp => h32 p (by simp [hp]))
   match h : joinL 32 (y :: t) with
   | [] => rfl
   | b :: s =>
    rw [h] at hrec
    have hb : b ≠ 32 := by
     have hy := hP y (by simp)
     match hyy : y with
     | [] => exact absurd rfl hy.1
     | z :: zs =>
      have : b = z := by
       cases t with
       | nil => rw [joinL] at h; exact (List.cons.inj h).1.symm
       | cons w t => rw [joinL, List.cons_append] at h; exact (List.cons.inj h).1.symm
      rw [this]
      exact h32 (z :: zs) (by simp) z (by simp)
    simp [noDbl, hb, hrec]
theorem getLast_join (c : UInt8) (P : List (List UInt8)) (hne : P ≠ []) (hP : ∀ p ∈ P, p ≠ []) (b : UInt8) (h : (joinL c P).getLast? = some b) : ∃ p ∈ P, b ∈ p := by
 induction P with
 | nil => exact absurd rfl hne
 | cons x t ih =>
  cases t with
  | nil => exact ⟨x, by simp, List.mem_of_getLast? h⟩
  | cons y t =>
   have hy : joinL c (y :: t) ≠ [] := joinL_ne c _ (by simp) (fun p hp => hP p (by simp [hp]))
   rw [joinL, List.getLast?_append, List.getLast?_cons_of_ne_nil hy] at h
   match hl : (joinL c (y :: t)).getLast? with
   | none => exact absurd (List.getLast?_eq_none_iff.1 hl) hy
   | some z =>
    rw [hl, Option.some_or] at h
    obtain ⟨p, hp, hb⟩ := ih (by simp) (fun p hp => hP p (by simp [hp])) (by rw [hl]; exact h)
    exact ⟨p, by simp [hp], hb⟩
theorem head_join (c : UInt8) (P : List (List UInt8)) (hne : P ≠ []) (hP : ∀ p ∈ P, p ≠ []) (b : UInt8) (h : (joinL c P).head? = some b) : ∃ p ∈ P, b ∈ p := by
 match P, hne with
 | [x], _ => exact ⟨x, by simp, List.mem_of_mem_head? h⟩
 | x :: y :: t, _ =>
  match hx : x with
  | [] => exact absurd rfl (hP [] (by simp))
  | z :: zs =>
   rw [joinL, List.cons_append, List.head?_cons] at h
   exact ⟨z :: zs, by simp, by rw [← Option.some.inj h]; simp⟩
theorem normalize_ev (P : List (List UInt8)) (hne : P ≠ []) (hP : ∀ p ∈ P, PartOk p) (hl : (joinL 32 P).length < 8796093022208) : Ev (fun k => gronx_normalize.f k (B (joinL 32 P))) (P.map B) := by
 have hpl : ∀ b ∈ joinL 32 P, plainB b = true := by
  intro b hb
  rcases joinL_mem hb with h | ⟨p, hp, h⟩
  ·subst h; rfl
  ·have := (hP p hp).2 b h
   unfold plainB
   rw [decide_eq_true this.1, decide_eq_true this.2]
   simp
 have h63 : ∀ b ∈ joinL 32 P, b.toNat ≤ 63 := by
  intro b hb
  rcases joinL_mem hb with h | ⟨p, hp, h⟩
  ·subst h; decide
  ·exact ((hP p hp).2 b h).2
 have hends : ∀ b, (∃ p ∈ P, b ∈ p) → b ≠ 32 ∧ b ≠ 9 := by
  rintro b ⟨p, hp, h⟩
  have := (hP p hp).2 b h
  constructor <;> (intro e; subst e; simp at this)
 have hd := noDbl_join P hP
 have hjn : joinL 32 P ≠ [] := joinL_ne _ _ hne (fun p hp => (hP p hp).1)
 unfold gronx_normalize.f
 refine Ev.bind (f := fun k t174 => ((strings_ToLower.f t174).bind fun t175 => ((gronx_expression.f t175).bind fun bt176 => (if bt176.2 = true then (gronx_normalize.j0 k bt176.1) else (gronx_normalize.j0 k t174))))) (zzTrim_ev _ (by omega) hjn (fun b hb => hends b (head_join 32 P hne (fun p hp => (hP p hp).1) b hb)) (fun b hb => hends b (getLast_join 32 P hne (fun p hp => (hP p hp).1) b hb))) ?_
 refine Ev.congr (f := fun k => gronx_normalize.j0 k (B (joinL 32 P))) (fun k => ?_) ?_
 ·simp only [toLower_plain _ (by omega : (joinL 32 P).length ≤ 140737488355328) h63, Option.bind_some, expression_no _ h63]
  rw [if_neg (by simp)]
 ·refine Ev.step (f := fun k => (gronx_zzSpaces.f k (B (joinL 32 P))).bind fun t178 => ((strings_ToUpper.f t178).bind fun t179 => ((gronx_zzLiterals.f k t179).bind fun t180 => ((gronx_zzReplaceAll.f k t180 (⟨#[32, 32]⟩ : ByteArray) (⟨#[32]⟩ : ByteArray)).bind fun t181 => ((gronx_zzSplit.f k t181 (⟨#[32]⟩ : ByteArray)).bind fun t182 => (some t182)))))) (fun k => by simp only [gronx_normalize.j0]) ?_
  refine Ev.bind (zzSpaces_ev _ (by omega) hd hpl) ?_
  refine Ev.congr (f := fun k => (gronx_zzLiterals.f k (B (joinL 32 P))).bind fun t180 => ((gronx_zzReplaceAll.f k t180 (⟨#[32, 32]⟩ : ByteArray) (⟨#[32]⟩ : ByteArray)).bind fun t181 => ((gronx_zzSplit.f k t181 (⟨#[32]⟩ : ByteArray)).bind fun t182 => (some t182)))) (fun k => by rw [toUpper_plain _ (by omega : (joinL 32 P).length ≤ 140737488355328) h63]; rfl) ?_
  refine Ev.bind (zzLiterals_ev _ (by omega) h63) ?_
  refine Ev.bind (f := fun k t181 => ((gronx_zzSplit.f k t181 (⟨#[32]⟩ : ByteArray)).bind fun t182 => (some t182))) (zzReplace_no _ [32, 32] [32] (by simp) (by simp) (noDbl_idx _ hd 0) (by omega)) ?_
  have hs := zzSplit_ev 32 (joinL 32 P) hl
  rw [splitL_join 32 P hne (fun p hp e => by have := (hP p hp).2 32 e; simp at this)] at hs
  exact Ev.bind hs (Ev.const rfl)
theorem segments_ev (P : List (List UInt8)) (hP : ∀ p ∈ P, PartOk p) (hl : (joinL 32 P).length < 8796093022208) (h5 : 5 ≤ P.length) (h7 : P.length ≤ 7) (h5l : ∀ h : P.length = 6, (P[5]'(by omega)).length < 4611686018427387904) :
  Ev (fun k => gronx_Segments.f k (B (joinL 32 P))) (((if P.length = 5 ∨ (∃ h : P.length = 6, hasYr (P[5]'(by omega)) 0 = true) then [48] :: P else P).map B), none) := by
 have hne : P ≠ [] := by intro e; rw [e] at h5; simp at h5
 unfold gronx_Segments.f
 refine Ev.bind (f := fun k t185 => (if (t185.length : Int) < 5 then (gronx_Segments.j0 k t185 (t185.length : Int) true) else (gronx_Segments.j0 k t185 (t185.length : Int) (decide ((t185.length : Int) > 7))))) (normalize_ev P hne hP hl) ?_
 rw [List.length_map]
 refine Ev.congr (f := fun k => gronx_Segments.j0 k (P.map B) (P.length : Int) false) (fun k => ?_) ?_
 ·rw [if_neg (by omega), decide_eq_false (by omega)]
 by_cases e5 : P.length = 5
 ·rw [if_pos (Or.inl e5)]
  refine Ev.done fun k => ?_
  simp only [gronx_Segments.j0]
  rw [if_neg (by simp), if_pos (by omega)]
  simp only [Option.bind_some]
  rw [if_pos (by simp; omega)]
  rfl
 ·by_cases e6 : P.length = 6
  ·have hy := zzHasYear_ev (P[5]'(by omega)) (h5l e6)
   have hrd : rdOf ByteArray.empty (P.map B) 5 = B (P[5]'(by omega)) := by simp [rdOf, e6]
   refine Ev.step (f := fun k => (gronx_zzHasYear.f k (B (P[5]'(by omega)))).bind fun t199 => (if t199 = true then ((some (([(⟨#[48]⟩ : ByteArray)] : List ByteArray) : List ByteArray)).bind fun y200 => (if y200.length + (P.map B).length < 8796093022208 then (some ((y200 ++ P.map B), none)) else (none))) else (some (P.map B, none)))) (fun k => ?_) (Ev.bind hy (Ev.const ?_))
   ·simp only [gronx_Segments.j0]
    rw [if_neg (by simp), if_neg (by omega), if_pos (by omega), if_pos (by simp; omega), hrd]
   ·cases hb : hasYr (P[5]'(by omega)) 0 with
    | true =>
     rw [if_pos rfl, if_pos (Or.inr ⟨e6, hb⟩)]
     simp only [Option.bind_some]
     rw [if_pos (by simp; omega)]
     rfl
    | false =>
     rw [if_neg (by simp), if_neg (by rintro (h | ⟨_, h⟩); omega; rw [hb] at h; cases h)]
  ·rw [if_neg (by rintro (h | ⟨h, _⟩) <;> omega)]
   refine Ev.done fun k => ?_
   simp only [gronx_Segments.j0]
   rw [if_neg (by simp), if_neg (by omega), if_neg (by omega)]
def nd (c : UInt8) : Prop := c.toNat < 48 ∨ 57 < c.toNat
def StartsNd (r : List UInt8) : Prop := r = [] ∨ ∃ c r', r = c :: r' ∧ nd c
def NoYr (l : List UInt8) : Prop := ∀ r, StartsNd r → hasYr (l ++ r) 0 = hasYr r 0
theorem noYr_nil : NoYr [] := fun _ _ => rfl
theorem hasYr_run (p r : List UInt8) (hp : ∀ b ∈ p, 48 ≤ b.toNat ∧ b.toNat ≤ 57) (hr : StartsNd r) (n : Nat) (h : p.length + n < 4) : hasYr (p ++ r) n = hasYr r 0 := by
 induction p generalizing n with
 | nil =>
  rcases hr with rfl | ⟨c, r', rfl, hc⟩
  ·rfl
  ·simp [hasYr, show c.toNat < 48 ∨ 57 < c.toNat from hc]
 | cons a t ih =>
  have ha := hp a (by simp)
  simp only [List.length_cons] at h
  rw [List.cons_append, hasYr, if_neg (by omega), if_neg (by omega)]
  exact ih (fun b hb => hp b (by simp [hb])) (n + 1) (by omega)
theorem noYr_digits (p : List UInt8) (hp : ∀ b ∈ p, 48 ≤ b.toNat ∧ b.toNat ≤ 57) (h : p.length < 4) : NoYr p := fun r hr => hasYr_run p r hp hr 0 (by omega)
theorem noYr_cons (c : UInt8) (l : List UInt8) (hc : nd c) (h : NoYr l) : NoYr (c :: l) := by
 intro r hr
 rw [List.cons_append, hasYr, if_pos (show c.toNat < 48 ∨ 57 < c.toNat from hc)]
 exact h r hr
theorem noYr_app (l m : List UInt8) (h : NoYr l) (hm : NoYr m) (hs : StartsNd m) : NoYr (l ++ m) := by
 intro r hr
 rw [List.append_assoc, h (m ++ r) ?_]
 ·exact hm r hr
 ·rcases hs with rfl | ⟨c, m', rfl, hc⟩
  ·exact hr
  ·exact Or.inr ⟨c, m' ++ r, rfl, hc⟩
theorem noYr_step (s : Int) (h : s ≤ 60) : NoYr (stepL s) ∧ StartsNd (stepL s) := by
 unfold stepL
 split
 ·have := decN_two s.toNat (by omega)
  exact ⟨noYr_cons 47 _ (by unfold nd; decide) (noYr_digits _ (decN_digit _) (by omega)), Or.inr ⟨47, _, rfl, by unfold nd; decide⟩⟩
 ·exact ⟨noYr_nil, Or.inl rfl⟩
theorem noYr_item {i : Nat} {x : It} (h : goodItem i x = true) : NoYr (itemL x) := by
 obtain ⟨s1, s2, hr⟩ := goodItem_spec h
 obtain ⟨q1, q2⟩ := noYr_step x.f3 s2
 unfold itemL
 cases h0 : x.f0 with
 | true => rw [if_pos rfl]; exact noYr_cons 42 _ (by unfold nd; decide) q1
 | false =>
  obtain ⟨r1, r2, r3, _, _⟩ := hr h0
  have l1 := decN_two x.f1.toNat (by omega)
  have l2 := decN_two x.f2.toNat (by omega)
  rw [if_neg (by simp)]
  refine noYr_app _ _ (noYr_digits _ (decN_digit _) (by omega)) ?_ ?_
  ·split
   ·exact noYr_app _ _ (noYr_cons 45 _ (by unfold nd; decide) (noYr_digits _ (decN_digit _) (by omega))) q1 q2
   ·exact q1
  ·split
   ·exact Or.inr ⟨45, _, rfl, by unfold nd; decide⟩
   ·exact q2
theorem noYr_join (P : List (List UInt8)) (h : ∀ p ∈ P, NoYr p) : NoYr (joinL 44 P) := by
 induction P with
 | nil => exact noYr_nil
 | cons x t ih =>
  cases t with
  | nil => exact h x (by simp)
  | cons y t =>
   rw [joinL]
   have hc : nd 44 := by unfold nd; decide
   exact noYr_app _ _ (h x (by simp)) (noYr_cons 44 _ hc (ih (fun p hp => h p (by simp [hp])))) (Or.inr ⟨44, _, rfl, hc⟩)
theorem field_noYr {i : Nat} {l : List It} (h : goodF i l = true) : hasYr (fieldL l) 0 = false := by
 obtain ⟨hg, _, _⟩ := goodF_spec h
 have := noYr_join (l.map itemL) (by intro p hp; obtain ⟨x, hx, rfl⟩ := List.mem_map.1 hp; exact noYr_item (hg x hx)) [] (Or.inl rfl)
 rw [List.append_nil] at this
 exact this
theorem decN_part (n : Nat) : ∀ b ∈ decN n, 33 ≤ b.toNat ∧ b.toNat ≤ 63 := fun b hb => by have := decN_digit n b hb; omega
theorem itemL_part (x : It) : ∀ b ∈ itemL x, 33 ≤ b.toNat ∧ b.toNat ≤ 63 := by
 have hs : ∀ b ∈ stepL x.f3, 33 ≤ b.toNat ∧ b.toNat ≤ 63 := by
  intro b hb
  unfold stepL at hb
  split at hb
  ·rcases List.mem_cons.1 hb with h | h
   ·subst h; decide
   ·exact decN_part _ b h
  ·cases hb
 intro b hb
 unfold itemL at hb
 split at hb
 ·rcases List.mem_cons.1 hb with h | h
  ·subst h; decide
  ·exact hs b h
 ·rcases List.mem_append.1 hb with h | h
  ·exact decN_part _ b h
  ·rcases List.mem_append.1 h with h | h
   ·split at h
    ·rcases List.mem_cons.1 h with h | h
     ·subst h; decide
     ·exact decN_part _ b h
    ·cases h
   ·exact hs b h
theorem field_part {i : Nat} {l : List It} (h : goodF i l = true) : PartOk (fieldL l) := by
 refine ⟨fieldL_ne h, fun b hb => ?_⟩
 rcases joinL_mem hb with h | ⟨p, hp, h⟩
 ·subst h; decide
 ·obtain ⟨x, _, rfl⟩ := List.mem_map.1 hp
  exact itemL_part x b h
theorem zeroF_field {l : List It} (h : zeroF l = true) : fieldL l = [48] := by
 unfold zeroF at h
 split at h
 ·rename_i x
  simp only [Bool.and_eq_true, Bool.not_eq_true', beq_iff_eq] at h
  obtain ⟨⟨⟨h0, h1⟩, h2⟩, h3⟩ := h
  simp [fieldL, joinL, itemL, stepL, h0, h1, h2, h3, decN_lt]
 ·cases h
theorem exprSegments_ev {Fs : List (List It)} {secs : Bool} (h : goodE Fs secs = true) : Ev (fun k => gronx_Segments.f k (B (textL Fs secs))) (Fs.map fun f => B (fieldL f), none) := by
 obtain ⟨f0, f1, f2, f3, f4, f5, rfl, h0, h1, h2, h3, h4, h5, hr⟩ := goodE_spec h
 have l0 := fieldL_length h0
 have l1 := fieldL_length h1
 have l2 := fieldL_length h2
 have l3 := fieldL_length h3
 have l4 := fieldL_length h4
 have l5 := fieldL_length h5
 cases secs with
 | true =>
  have hs := segments_ev [fieldL f0, fieldL f1, fieldL f2, fieldL f3, fieldL f4, fieldL f5] (by
   intro p hp
   simp only [List.mem_cons, List.not_mem_nil, or_false] at hp
   rcases hp with rfl | rfl | rfl | rfl | rfl | rfl
   ·exact field_part h0
   ·exact field_part h1
   ·exact field_part h2
   ·exact field_part h3
   ·exact field_part h4
   ·exact field_part h5) (by simp [joinL]; omega) (by simp) (by simp) (by intro _; simp; omega)
  rw [if_neg (by simp [field_noYr h5])] at hs
  exact hs
 | false =>
  have hs := segments_ev [fieldL f1, fieldL f2, fieldL f3, fieldL f4, fieldL f5] (by
   intro p hp
   simp only [List.mem_cons, List.not_mem_nil, or_false] at hp
   rcases hp with rfl | rfl | rfl | rfl | rfl
   ·exact field_part h1
   ·exact field_part h2
   ·exact field_part h3
   ·exact field_part h4
   ·exact field_part h5) (by simp [joinL]; omega) (by simp) (by simp) (by intro h; simp at h)
  rw [if_pos (by simp)] at hs
  have hz : zeroF f0 = true := by
   unfold restE at hr
   simp only [Bool.and_eq_true, Bool.false_or] at hr
   exact hr.1.1
  have e := zeroF_field hz
  simp only [List.map_cons, List.map_nil, e]
  exact hs
def hasIt (i : Nat) (x : It) (n : Int) : Bool := decide ((if x.f0 then lowI i else x.f1) ≤ n ∧ n ≤ (if x.f0 then highI i else x.f2) ∧ (n - (if x.f0 then lowI i else x.f1)) % x.f3 = 0)
def hasF (i : Nat) (l : List It) (n : Int) : Bool := l.any fun x => hasIt i x n
theorem has_from (i : Nat) (hi : i < 6) (l : List It) (hg : ∀ x ∈ l, goodItem i x = true) (hl : l.length < 4611686018427387904) (n : Int) (n0 : 0 ≤ n) (n1 : n ≤ 10000) :
  ∀ (rest : List It) (j : Nat), l.drop j = rest → j ≤ l.length → Ev (fun k => spec_Has.l0 k (i : Int) n l (l.length : Int) (j : Int)) (hasF i rest n) := by
 intro rest
 induction rest with
 | nil =>
  intro j hj hjl
  have hlen : l.length ≤ j := List.drop_eq_nil_iff.1 hj
  refine Ev.done fun k => ?_
  simp only [spec_Has.l0]
  rw [if_neg (by omega)]
  rfl
 | cons x t ih =>
  intro j hj hjl
  have hlt : j < l.length := by
   rcases Nat.lt_or_ge j l.length with h | h
   ·exact h
   ·rw [List.drop_eq_nil_of_le h] at hj; cases hj
  have hx : l[j] = x := by
   have := List.drop_eq_getElem_cons hlt
   rw [hj] at this
   exact (List.cons.inj this).1.symm
  have ht : l.drop (j + 1) = t := by rw [← List.drop_drop, hj]; rfl
  have hrd := rdI_at l j hlt
  rw [hx] at hrd
  have hrec := ih (j + 1) ht (by omega)
  obtain ⟨s1, s2, hr⟩ := goodItem_spec (hg x (by rw [← hx]; exact List.getElem_mem hlt))
  have hlo := lowI_ge i
  have hw := wrap64_nat j (by omega)
  have hcons : hasF i (x :: t) n = (hasIt i x n || hasF i t n) := rfl
  rw [hcons]
  have hgo : hasIt i x n = false → Ev (fun k => spec_Has.l0 k (i : Int) n l (l.length : Int) ((j + 1 : Nat) : Int)) (hasIt i x n || hasF i t n) := fun e => by rw [e, Bool.false_or]; exact hrec
  by_cases h0 : x.f0 = true
  ·have e0 : hasIt i x n = decide (lowI i ≤ n ∧ n ≤ highI i ∧ (n - lowI i) % x.f3 = 0) := by simp [hasIt, h0]
   by_cases g1 : lowI i ≤ n
   ·by_cases g2 : n ≤ highI i
    ·have hm : Int.tmod (wrap64 (n - lowI i)) x.f3 = (n - lowI i) % x.f3 := by rw [wrap64_id (by omega) (by omega), Int.tmod_eq_emod_of_nonneg (by omega)]
     by_cases g3 : (n - lowI i) % x.f3 = 0
     ·rw [e0, decide_eq_true ⟨g1, g2, g3⟩, Bool.true_or]
      refine Ev.done fun k => ?_
      simp only [spec_Has.l0, hrd, low_some, high_some i hi, Option.bind_some, hm]
      rw [if_pos (by omega), if_pos (by omega), if_pos (by omega), if_pos h0, if_pos (by omega), if_pos (by omega), if_neg (by omega), if_pos g3]
     ·refine Ev.step (fun k => ?_) (hgo (by rw [e0]; exact decide_eq_false (fun e => g3 e.2.2)))
      simp only [spec_Has.l0, hrd, low_some, high_some i hi, Option.bind_some, hm]
      rw [if_pos (by omega), if_pos (by omega), if_pos (by omega), if_pos h0, if_pos (by omega), if_pos (by omega), if_neg (by omega), if_neg g3, hw]
    ·refine Ev.step (fun k => ?_) (hgo (by rw [e0]; exact decide_eq_false (fun e => g2 e.2.1)))
     simp only [spec_Has.l0, hrd, low_some, high_some i hi, Option.bind_some]
     rw [if_pos (by omega), if_pos (by omega), if_pos (by omega), if_pos h0, if_pos (by omega), if_neg (by omega), hw]
   ·refine Ev.step (fun k => ?_) (hgo (by rw [e0]; exact decide_eq_false (fun e => g1 e.1)))
    simp only [spec_Has.l0, hrd, low_some, high_some i hi, Option.bind_some]
    rw [if_pos (by omega), if_pos (by omega), if_pos (by omega), if_pos h0, if_neg (by omega), hw]
  ·have h0' : x.f0 = false := by simpa using h0
   obtain ⟨r1, r2, r3, _, _⟩ := hr h0'
   have e0 : hasIt i x n = decide (x.f1 ≤ n ∧ n ≤ x.f2 ∧ (n - x.f1) % x.f3 = 0) := by simp [hasIt, h0']
   by_cases g1 : x.f1 ≤ n
   ·by_cases g2 : n ≤ x.f2
    ·have hm : Int.tmod (wrap64 (n - x.f1)) x.f3 = (n - x.f1) % x.f3 := by rw [wrap64_id (by omega) (by omega), Int.tmod_eq_emod_of_nonneg (by omega)]
     by_cases g3 : (n - x.f1) % x.f3 = 0
     ·rw [e0, decide_eq_true ⟨g1, g2, g3⟩, Bool.true_or]
      refine Ev.done fun k => ?_
      simp only [spec_Has.l0, hrd, hm]
      rw [if_pos (by omega), if_pos (by omega), if_pos (by omega), if_neg h0, if_pos (by omega), if_pos (by omega), if_neg (by omega), if_pos g3]
     ·refine Ev.step (fun k => ?_) (hgo (by rw [e0]; exact decide_eq_false (fun e => g3 e.2.2)))
      simp only [spec_Has.l0, hrd, hm]
      rw [if_pos (by omega), if_pos (by omega), if_pos (by omega), if_neg h0, if_pos (by omega), if_pos (by omega), if_neg (by omega), if_neg g3, hw]
    ·refine Ev.step (fun k => ?_) (hgo (by rw [e0]; exact decide_eq_false (fun e => g2 e.2.1)))
     simp only [spec_Has.l0, hrd]
     rw [if_pos (by omega), if_pos (by omega), if_pos (by omega), if_neg h0, if_pos (by omega), if_neg (by omega), hw]
   ·refine Ev.step (fun k => ?_) (hgo (by rw [e0]; exact decide_eq_false (fun e => g1 e.1)))
    simp only [spec_Has.l0, hrd]
    rw [if_pos (by omega), if_pos (by omega), if_pos (by omega), if_neg h0, if_neg (by omega), hw]
theorem has_ev (i : Nat) (hi : i < 6) (l : List It) (hg : goodF i l = true) (n : Int) (n0 : 0 ≤ n) (n1 : n ≤ 10000) : Ev (fun k => spec_Has.f k (i : Int) l n) (hasF i l n) := by
 obtain ⟨h1, h2, h3⟩ := goodF_spec hg
 exact has_from i hi l h1 (by omega) n n0 n1 l 0 rfl (Nat.zero_le _)
end Go.Proofs.YtemgofomhjabpaaGreatDoor.Core
namespace Go.Proofs.YtemgofomhjabpaaGreatDoor.Core
open Go.RowKit Go.Proofs.YtemgofomhjabpaaGreatDoorW.PrintWords Go.Proofs.YtemgofomhjabpaaGreatDoorW.PrintLast Go.Proofs.YtemgofomhjabpaaGreatDoorW.PrintMore
attribute [local go_sem] max2_int min2_int max_two min_two max_three min_three max_four min_four   -- for this text's walks alone
set_option linter.unusedVariables false
set_option linter.unusedSimpArgs false
mutual
def gronx_inStepRange.l0 : Nat → Int → Int → Int → Int → Option (Bool)
 | 0, _, _, _, _ => none
 | k + 1, x0, x2, x3, x9 => if x9 ≤ x2 then (gronx_inStepRange.j1 k x0 x2 x3 x9 (decide (x9 ≤ x0))) else (gronx_inStepRange.j1 k x0 x2 x3 x9 false)
def gronx_inStepRange.j1 : Nat → Int → Int → Int → Int → Bool → Option (Bool)
 | 0, _, _, _, _, _ => none
 | k + 1, x0, x2, x3, x9, x18 => if x18 = true then (if x9 = x0 then (some true) else (gronx_inStepRange.l0 k x0 x2 x3 (wrap64 (x9 + x3)))) else (some false)
end
def gronx_inStepRange.f (k : Nat) (a0 : Int) (a1 : Int) (a2 : Int) (a3 : Int) : Option (Bool) := gronx_inStepRange.l0 k a0 a2 a3 a1
set_option maxHeartbeats 8000000 in
set_option maxRecDepth 100000 in
theorem gronx_inStepRange.calls (k : Nat) (a0 : Int) (a1 : Int) (a2 : Int) (a3 : Int) (r : Bool) (w : World) (h : gronx_inStepRange.f k a0 a1 a2 a3 = some r) :
  Calls Tryz.prog 147 #[.int .i64 a0, .int .i64 a1, .int .i64 a2, .int .i64 a3] w fun e w' => e = .returned (.bool r) ∧ Drawn0 w w' := by
 have H : (gronx_inStepRange.l0 k a0 a2 a3 a1) = some r := h
 clear h
 have H' := Aside0.mk H
 clear H
 go_enter Tryz.func147, Tryz.ntmps147
 go_wp2
 go_loopg [9] k (fun kq v9 w' => ∃ (x9_1 : Int), v9 = .int .i64 x9_1 ∧ Aside0 (gronx_inStepRange.l0 kq a0 a2 a3 x9_1 = some r) ∧ Aside0 (kq ≤ k) ∧ Drawn0 w w')
 case atStart => exact ⟨(a1), (by first | rfl | (simp; done) | (simp [*]; done)), H', ⟨Nat.le_refl _⟩, by repeat (first | exact Drawn0.refl _ | apply Drawn0.step)⟩
 case round =>
  clear H'
  obtain ⟨x9_1, rfl, HA, HK1, ⟨m1, rfl⟩⟩ := hrel
  cases gk with
  | zero => exact absurd HA.out (by simp [gronx_inStepRange.l0])
  | succ k1 =>
   have H := HA.out
   clear HA
   simp only [gronx_inStepRange.l0] at H
   have HC5 := Aside0.mk H
   clear H
   go_upto_region 2 with (fail)
   go_cut [18] (fun v18 wc => ∃ (kq : Nat) (x18_4 : Bool), v18 = .bool x18_4 ∧ Aside0 (gronx_inStepRange.j1 kq a0 a2 a3 x9_1 x18_4 = some r) ∧ Aside0 (kq ≤ k1) ∧ Drawn0 w wc)
   case first =>
    have H := HC5.out
    clear HC5
    by_cases c6 : x9_1 ≤ a2
    ·rw [if_pos c6] at H
     have c6b0 : decide (x9_1 ≤ a2) = true := decide_eq_true c6
     clear c6
     (first | rw [c6b0] | (simp only [i64_w, i32_w]; rw [c6b0]) | skip)
     have H' := Aside0.mk H
     clear H
     go_wp2
     go_meet
     case rel => exact ⟨_, (decide (x9_1 ≤ a0)), (by first | rfl | (simp; done) | (simp [*]; done)), H', ⟨by have := HK1.out; first | omega | exact Nat.le_refl _⟩, by repeat (first | exact Drawn0.refl _ | apply Drawn0.step)⟩
    ·rw [if_neg c6] at H
     have c6b0 : decide (x9_1 ≤ a2) = false := decide_eq_false c6
     clear c6
     (first | rw [c6b0] | (simp only [i64_w, i32_w]; rw [c6b0]) | skip)
     have H' := Aside0.mk H
     clear H
     go_wp2
     go_meet
     case rel => exact ⟨_, (false), (by first | rfl | (simp; done) | (simp [*]; done)), H', ⟨by have := HK1.out; first | omega | exact Nat.le_refl _⟩, by repeat (first | exact Drawn0.refl _ | apply Drawn0.step)⟩
   case rest =>
    clear HC5
    obtain ⟨kq, x18_4, rfl, HA, HJ4, ⟨mc4, rfl⟩⟩ := hcut
    cases kq with
    | zero => exact absurd HA.out (by simp [gronx_inStepRange.j1])
    | succ kj4 =>
     have H := HA.out
     clear HA
     simp only [gronx_inStepRange.j1] at H
     by_cases c7 : x18_4 = true
     ·subst c7
      have H1 : (if x9_1 = a0 then (some true) else (gronx_inStepRange.l0 kj4 a0 a2 a3 (wrap64 (x9_1 + a3)))) = some r := by rw [if_pos rfl] at H; exact H
      clear H
      have H := H1
      clear H1
      by_cases c8 : x9_1 = a0
      ·rw [if_pos c8] at H
       have c8b0 : (x9_1 == a0) = true := beq_iff_eq.mpr c8
       have c8b1 : (x9_1 != a0) = false := bne_eq_false_iff_eq.mpr c8
       clear c8
       obtain rfl := Option.some.inj H
       go_wp2
       go_ret
       exact ⟨by first | rfl | (simp; done) | (simp [*]; done), by repeat (first | exact Drawn0.refl _ | apply Drawn0.step)⟩
      ·rw [if_neg c8] at H
       have c8b0 : (x9_1 == a0) = false := beq_eq_false_iff_ne.mpr c8
       have c8b1 : (x9_1 != a0) = true := bne_iff_ne.mpr c8
       have H' := Aside0.mk H
       clear H
       go_wp2
       go_roundg kj4
       case measure => have := HK1.out; have := HJ4.out; omega
       case rel => exact ⟨(wrap64 (x9_1 + a3)), (by first | rfl | (simp; done) | (simp [*]; done)), H', ⟨by have := HK1.out; have := HJ4.out; omega⟩, by repeat (first | exact Drawn0.refl _ | apply Drawn0.step)⟩
     ·replace c7 := Bool.eq_false_iff.mpr c7
      subst c7
      have H1 : (some false) = some r := by rw [if_neg (show ¬ (false = true) by decide)] at H; exact H
      clear H
      have H := H1
      clear H1
      obtain rfl := Option.some.inj H
      go_wp2
      go_ret
      exact ⟨by first | rfl | (simp; done) | (simp [*]; done), by repeat (first | exact Drawn0.refl _ | apply Drawn0.step)⟩
def gronx_boundsByPos.j0 : Nat → List Int → Int → Bool → Option (List Int)
 | 0, _, _, _ => none
 | k + 1, x2, x4, x5 => if x5 = true then (some (([0, 59] : List Int))) else (if x4 = 2 then (some (([0, 23] : List Int))) else (if x4 = 3 then (some (([1, 31] : List Int))) else (if x4 = 4 then (some (([1, 12] : List Int))) else (if x4 = 5 then (some (([0, 7] : List Int))) else (if x4 = 6 then (some (([0, 9999] : List Int))) else (some x2))))))
def gronx_boundsByPos.f (k : Nat) (a0 : Int) : Option (List Int) := (some (([0, 0] : List Int) : List Int)).bind fun y476 => (if a0 = 0 then (gronx_boundsByPos.j0 k y476 a0 (a0 == 0)) else (gronx_boundsByPos.j0 k y476 a0 (a0 == 1)))
set_option maxHeartbeats 8000000 in
set_option maxRecDepth 100000 in
theorem gronx_boundsByPos.calls (k : Nat) (a0 : Int) (r : List Int) (w : World) (h : gronx_boundsByPos.f k a0 = some r) :
  Calls Tryz.prog 132 #[.int .i64 a0] w fun e w' => ∃ v0_ : Value, e = .returned (v0_) ∧ Kd.R (Kd.int .i64) 3 w' w.heap.size (fun _ => True) v0_ r ∧ Below w.heap.size w w' := by
 have HB := Aside0.mk (Below.refl w.heap.size w)
 have H : ((some (([0, 0] : List Int) : List Int)).bind fun y476 => (if a0 = 0 then (gronx_boundsByPos.j0 k y476 a0 (a0 == 0)) else (gronx_boundsByPos.j0 k y476 a0 (a0 == 1)))) = some r := h
 clear h
 obtain ⟨y476, hy476⟩ : ∃ y_ : List Int, y_ = (([0, 0] : List Int)) := ⟨_, rfl⟩
 replace H : (if a0 = 0 then (gronx_boundsByPos.j0 k y476 a0 (a0 == 0)) else (gronx_boundsByPos.j0 k y476 a0 (a0 == 1))) = some r := by first | (rw [hy476]; with_reducible exact H) | (have H2_ := (Option.bind_some _ _).symm.trans H; rw [hy476]; with_reducible exact H2_) | (have H2_ := (Option.bind_some _ _).symm.trans H; with_reducible exact H2_) | with_reducible exact H | (rw [hy476]; exact H) | exact H
 have Ny476 := Aside0.mk hy476
 clear hy476
 have HC2 := Aside0.mk H
 clear H
 go_enter Tryz.func132, Tryz.ntmps132
 go_upto_if 5 with (first | ((with_reducible refine gate_dst (N := 3) rfl ?_); refine Kd.R_lit (Kd.int .i64) _ 3 ?hg (N := 3) ?hd (xs := ([0, 0] : List Int)) (inner := [.int .i64 0, .int .i64 0]) (ok := fun _ => True) (okp := fun _ => True) ?hr ?hp (fun _ hk => hk) trivial (Below.refl _ _) (Nat.le_refl _) (by simp) ?_; (case hd => rfl); (case hg => rfl); (case hr => first | (go_simp; done) | (go_simp; rfl)); (case hp => exact (Reps.one (show Kd.M (Kd.int .i64) _ _ _ 0 [.int .i64 0] from rfl) (Reps.one (show Kd.M (Kd.int .i64) _ _ _ 0 [.int .i64 0] from rfl) (Reps.none _ _)))); intro v477 w3 ho4 hb hg_ hnew_; clear hg_ hnew_; (first | rw [← Ny476.out] at ho4 | (simp only [Int.reduceToNat] at ho4; rw [← Ny476.out] at ho4)); have n0_ := Aside0.mk (Kd.R_lower ho4 (below_size (by repeat (first | (with_reducible first | exact HB.out | apply below_alloc | apply pw_below_drewN | apply below_drew1) | exact HB.out)))); have n1_ := Aside0.mk (below_step (by repeat (first | (with_reducible first | exact HB.out | apply below_alloc | apply pw_below_drewN | apply below_drew1) | exact HB.out)) hb); clear HB; have HO478 := n0_; have HB := n1_; clear n0_ n1_; clear hb ho4))
 (try simp only [Act.put, List.setIfInBounds_toArray, List.set_cons_zero, List.set_cons_succ])
 go_cut [5] (fun v5 wc => ∃ (kq : Nat) (x5_1 : Bool), v5 = .bool x5_1 ∧ Aside0 (gronx_boundsByPos.j0 kq y476 a0 x5_1 = some r) ∧ Aside0 (kq ≤ k) ∧ Aside0 (Kd.R (Kd.int .i64) 3 wc w.heap.size (fun _ => True) v477 y476) ∧ Aside0 (Below w.heap.size w wc))
 case first =>
  have H := HC2.out
  clear HC2
  by_cases c5 : a0 = 0
  ·rw [if_pos c5] at H
   have c5b0 : (a0 == 0) = true := beq_iff_eq.mpr c5
   have c5b1 : (a0 != 0) = false := bne_eq_false_iff_eq.mpr c5
   clear c5
   (first | rw [c5b0] | (simp only [i64_w, i32_w]; rw [c5b0]) | skip)
   have H' := Aside0.mk H
   clear H
   go_wp2
   go_meet
   case rel => exact ⟨_, ((a0 == 0)), (by first | rfl | (simp; done) | (simp [*]; done)), H', ⟨by first | omega | exact Nat.le_refl _⟩, ⟨by (with_reducible repeat (first | apply Kd.R_alloc | apply Kd.R_drewN | apply Kd.R_drew)); exact HO478.out⟩, ⟨by repeat (first | (with_reducible first | exact HB.out | apply below_alloc | apply pw_below_drewN | apply below_drew1) | exact HB.out)⟩⟩
  ·rw [if_neg c5] at H
   have c5b0 : (a0 == 0) = false := beq_eq_false_iff_ne.mpr c5
   have c5b1 : (a0 != 0) = true := bne_iff_ne.mpr c5
   (first | rw [c5b0] | (simp only [i64_w, i32_w]; rw [c5b0]) | skip)
   have H' := Aside0.mk H
   clear H
   go_wp2
   go_meet
   case rel => exact ⟨_, ((a0 == 1)), (by first | rfl | (simp; done) | (simp [*]; done)), H', ⟨by first | omega | exact Nat.le_refl _⟩, ⟨by (with_reducible repeat (first | apply Kd.R_alloc | apply Kd.R_drewN | apply Kd.R_drew)); exact HO478.out⟩, ⟨by repeat (first | (with_reducible first | exact HB.out | apply below_alloc | apply pw_below_drewN | apply below_drew1) | exact HB.out)⟩⟩
 case rest =>
  clear HC2
  obtain ⟨kq, x5_1, rfl, HA, HJ1, HO_2, HB⟩ := hcut
  cases kq with
  | zero => exact absurd HA.out (by simp [gronx_boundsByPos.j0])
  | succ kj1 =>
   have H := HA.out
   clear HA
   simp only [gronx_boundsByPos.j0] at H
   by_cases c6 : x5_1 = true
   ·subst c6
    have H1 : (some (([0, 59] : List Int))) = some r := by rw [if_pos rfl] at H; exact H
    clear H
    have H := H1
    clear H1
    obtain ⟨y479, hy479⟩ : ∃ y_ : List Int, y_ = (([0, 59] : List Int)) := ⟨_, rfl⟩
    replace H : (some y479) = some r := by first | (rw [hy479]; with_reducible exact H) | (have H2_ := (Option.bind_some _ _).symm.trans H; rw [hy479]; with_reducible exact H2_) | (have H2_ := (Option.bind_some _ _).symm.trans H; with_reducible exact H2_) | with_reducible exact H | (rw [hy479]; exact H) | exact H
    have Ny479 := Aside0.mk hy479
    clear hy479
    obtain rfl := Option.some.inj H
    go_wp2_with (first | ((with_reducible refine gate_dst (N := 8) rfl ?_); refine Kd.R_lit (Kd.int .i64) _ 3 ?hg (N := 8) ?hd (xs := ([0, 59] : List Int)) (inner := [.int .i64 0, .int .i64 59]) (ok := fun _ => True) (okp := fun _ => True) ?hr ?hp (fun _ hk => hk) trivial (Below.refl _ _) (Nat.le_refl _) (by simp) ?_; (case hd => rfl); (case hg => rfl); (case hr => first | (go_simp; done) | (go_simp; rfl)); (case hp => exact (Reps.one (show Kd.M (Kd.int .i64) _ _ _ 0 [.int .i64 0] from rfl) (Reps.one (show Kd.M (Kd.int .i64) _ _ _ 59 [.int .i64 59] from rfl) (Reps.none _ _)))); intro v480 w7 ho8 hb hg_ hnew_; clear hg_ hnew_; (first | rw [← Ny479.out] at ho8 | (simp only [Int.reduceToNat] at ho8; rw [← Ny479.out] at ho8)); have n0_ := Aside0.mk (Kd.R_elder' (by (with_reducible repeat (first | apply Kd.R_alloc | apply Kd.R_drewN | apply Kd.R_drew)); exact HO_2.out) (Kd.R_base ho8) hb); have n1_ := Aside0.mk (Kd.R_lower (Kd.R_new' ho8 (Kd.R_lt (by (with_reducible repeat (first | apply Kd.R_alloc | apply Kd.R_drewN | apply Kd.R_drew)); exact HO_2.out))) (below_size (by repeat (first | (with_reducible first | exact HB.out | apply below_alloc | apply pw_below_drewN | apply below_drew1) | exact HB.out)))); have n2_ := Aside0.mk (below_step (by repeat (first | (with_reducible first | exact HB.out | apply below_alloc | apply pw_below_drewN | apply below_drew1) | exact HB.out)) hb); clear HO_2; clear HB; have HO_2 := n0_; have HO481 := n1_; have HB := n2_; clear n0_ n1_ n2_; clear hb ho8))
    go_ret
    exact ⟨_, by first | rfl | (simp [errW_none, errW_some] <;> rfl) | (simp [*, errW_none, errW_some] <;> rfl), by (with_reducible repeat (first | apply Kd.R_alloc | apply Kd.R_drewN | apply Kd.R_drew)); exact Kd.R_mono HO481.out (fun _ hk => trivial), by repeat (first | (with_reducible first | exact HB.out | apply below_alloc | apply pw_below_drewN | apply below_drew1) | exact HB.out)⟩
   ·replace c6 := Bool.eq_false_iff.mpr c6
    subst c6
    have H1 : (if a0 = 2 then (some (([0, 23] : List Int))) else (if a0 = 3 then (some (([1, 31] : List Int))) else (if a0 = 4 then (some (([1, 12] : List Int))) else (if a0 = 5 then (some (([0, 7] : List Int))) else (if a0 = 6 then (some (([0, 9999] : List Int))) else (some y476)))))) = some r := by rw [if_neg (show ¬ (false = true) by decide)] at H; exact H
    clear H
    have H := H1
    clear H1
    by_cases c9 : a0 = 2
    ·rw [if_pos c9] at H
     have c9b0 : (a0 == 2) = true := beq_iff_eq.mpr c9
     have c9b1 : (a0 != 2) = false := bne_eq_false_iff_eq.mpr c9
     clear c9
     obtain ⟨y482, hy482⟩ : ∃ y_ : List Int, y_ = (([0, 23] : List Int)) := ⟨_, rfl⟩
     replace H : (some y482) = some r := by first | (rw [hy482]; with_reducible exact H) | (have H2_ := (Option.bind_some _ _).symm.trans H; rw [hy482]; with_reducible exact H2_) | (have H2_ := (Option.bind_some _ _).symm.trans H; with_reducible exact H2_) | with_reducible exact H | (rw [hy482]; exact H) | exact H
     have Ny482 := Aside0.mk hy482
     clear hy482
     obtain rfl := Option.some.inj H
     go_wp2_with (first | ((with_reducible refine gate_dst (N := 11) rfl ?_); refine Kd.R_lit (Kd.int .i64) _ 3 ?hg (N := 11) ?hd (xs := ([0, 23] : List Int)) (inner := [.int .i64 0, .int .i64 23]) (ok := fun _ => True) (okp := fun _ => True) ?hr ?hp (fun _ hk => hk) trivial (Below.refl _ _) (Nat.le_refl _) (by simp) ?_; (case hd => rfl); (case hg => rfl); (case hr => first | (go_simp; done) | (go_simp; rfl)); (case hp => exact (Reps.one (show Kd.M (Kd.int .i64) _ _ _ 0 [.int .i64 0] from rfl) (Reps.one (show Kd.M (Kd.int .i64) _ _ _ 23 [.int .i64 23] from rfl) (Reps.none _ _)))); intro v483 w10 ho11 hb hg_ hnew_; clear hg_ hnew_; (first | rw [← Ny482.out] at ho11 | (simp only [Int.reduceToNat] at ho11; rw [← Ny482.out] at ho11)); have n0_ := Aside0.mk (Kd.R_elder' (by (with_reducible repeat (first | apply Kd.R_alloc | apply Kd.R_drewN | apply Kd.R_drew)); exact HO_2.out) (Kd.R_base ho11) hb); have n1_ := Aside0.mk (Kd.R_lower (Kd.R_new' ho11 (Kd.R_lt (by (with_reducible repeat (first | apply Kd.R_alloc | apply Kd.R_drewN | apply Kd.R_drew)); exact HO_2.out))) (below_size (by repeat (first | (with_reducible first | exact HB.out | apply below_alloc | apply pw_below_drewN | apply below_drew1) | exact HB.out)))); have n2_ := Aside0.mk (below_step (by repeat (first | (with_reducible first | exact HB.out | apply below_alloc | apply pw_below_drewN | apply below_drew1) | exact HB.out)) hb); clear HO_2; clear HB; have HO_2 := n0_; have HO484 := n1_; have HB := n2_; clear n0_ n1_ n2_; clear hb ho11))
     go_ret
     exact ⟨_, by first | rfl | (simp [errW_none, errW_some] <;> rfl) | (simp [*, errW_none, errW_some] <;> rfl), by (with_reducible repeat (first | apply Kd.R_alloc | apply Kd.R_drewN | apply Kd.R_drew)); exact Kd.R_mono HO484.out (fun _ hk => trivial), by repeat (first | (with_reducible first | exact HB.out | apply below_alloc | apply pw_below_drewN | apply below_drew1) | exact HB.out)⟩
    ·rw [if_neg c9] at H
     have c9b0 : (a0 == 2) = false := beq_eq_false_iff_ne.mpr c9
     have c9b1 : (a0 != 2) = true := bne_iff_ne.mpr c9
     by_cases c12 : a0 = 3
     ·rw [if_pos c12] at H
      have c12b0 : (a0 == 3) = true := beq_iff_eq.mpr c12
      have c12b1 : (a0 != 3) = false := bne_eq_false_iff_eq.mpr c12
      clear c12
      obtain ⟨y485, hy485⟩ : ∃ y_ : List Int, y_ = (([1, 31] : List Int)) := ⟨_, rfl⟩
      replace H : (some y485) = some r := by first | (rw [hy485]; with_reducible exact H) | (have H2_ := (Option.bind_some _ _).symm.trans H; rw [hy485]; with_reducible exact H2_) | (have H2_ := (Option.bind_some _ _).symm.trans H; with_reducible exact H2_) | with_reducible exact H | (rw [hy485]; exact H) | exact H
      have Ny485 := Aside0.mk hy485
      clear hy485
      obtain rfl := Option.some.inj H
      go_wp2_with (first | ((with_reducible refine gate_dst (N := 14) rfl ?_); refine Kd.R_lit (Kd.int .i64) _ 3 ?hg (N := 14) ?hd (xs := ([1, 31] : List Int)) (inner := [.int .i64 1, .int .i64 31]) (ok := fun _ => True) (okp := fun _ => True) ?hr ?hp (fun _ hk => hk) trivial (Below.refl _ _) (Nat.le_refl _) (by simp) ?_; (case hd => rfl); (case hg => rfl); (case hr => first | (go_simp; done) | (go_simp; rfl)); (case hp => exact (Reps.one (show Kd.M (Kd.int .i64) _ _ _ 1 [.int .i64 1] from rfl) (Reps.one (show Kd.M (Kd.int .i64) _ _ _ 31 [.int .i64 31] from rfl) (Reps.none _ _)))); intro v486 w13 ho14 hb hg_ hnew_; clear hg_ hnew_; (first | rw [← Ny485.out] at ho14 | (simp only [Int.reduceToNat] at ho14; rw [← Ny485.out] at ho14)); have n0_ := Aside0.mk (Kd.R_elder' (by (with_reducible repeat (first | apply Kd.R_alloc | apply Kd.R_drewN | apply Kd.R_drew)); exact HO_2.out) (Kd.R_base ho14) hb); have n1_ := Aside0.mk (Kd.R_lower (Kd.R_new' ho14 (Kd.R_lt (by (with_reducible repeat (first | apply Kd.R_alloc | apply Kd.R_drewN | apply Kd.R_drew)); exact HO_2.out))) (below_size (by repeat (first | (with_reducible first | exact HB.out | apply below_alloc | apply pw_below_drewN | apply below_drew1) | exact HB.out)))); have n2_ := Aside0.mk (below_step (by repeat (first | (with_reducible first | exact HB.out | apply below_alloc | apply pw_below_drewN | apply below_drew1) | exact HB.out)) hb); clear HO_2; clear HB; have HO_2 := n0_; have HO487 := n1_; have HB := n2_; clear n0_ n1_ n2_; clear hb ho14))
      go_ret
      exact ⟨_, by first | rfl | (simp [errW_none, errW_some] <;> rfl) | (simp [*, errW_none, errW_some] <;> rfl), by (with_reducible repeat (first | apply Kd.R_alloc | apply Kd.R_drewN | apply Kd.R_drew)); exact Kd.R_mono HO487.out (fun _ hk => trivial), by repeat (first | (with_reducible first | exact HB.out | apply below_alloc | apply pw_below_drewN | apply below_drew1) | exact HB.out)⟩
     ·rw [if_neg c12] at H
      have c12b0 : (a0 == 3) = false := beq_eq_false_iff_ne.mpr c12
      have c12b1 : (a0 != 3) = true := bne_iff_ne.mpr c12
      by_cases c15 : a0 = 4
      ·rw [if_pos c15] at H
       have c15b0 : (a0 == 4) = true := beq_iff_eq.mpr c15
       have c15b1 : (a0 != 4) = false := bne_eq_false_iff_eq.mpr c15
       clear c15
       obtain ⟨y488, hy488⟩ : ∃ y_ : List Int, y_ = (([1, 12] : List Int)) := ⟨_, rfl⟩
       replace H : (some y488) = some r := by first | (rw [hy488]; with_reducible exact H) | (have H2_ := (Option.bind_some _ _).symm.trans H; rw [hy488]; with_reducible exact H2_) | (have H2_ := (Option.bind_some _ _).symm.trans H; with_reducible exact H2_) | with_reducible exact H | (rw [hy488]; exact H) | exact H
       have Ny488 := Aside0.mk hy488
       clear hy488
       obtain rfl := Option.some.inj H
       go_wp2_with (first | ((with_reducible refine gate_dst (N := 17) rfl ?_); refine Kd.R_lit (Kd.int .i64) _ 3 ?hg (N := 17) ?hd (xs := ([1, 12] : List Int)) (inner := [.int .i64 1, .int .i64 12]) (ok := fun _ => True) (okp := fun _ => True) ?hr ?hp (fun _ hk => hk) trivial (Below.refl _ _) (Nat.le_refl _) (by simp) ?_; (case hd => rfl); (case hg => rfl); (case hr => first | (go_simp; done) | (go_simp; rfl)); (case hp => exact (Reps.one (show Kd.M (Kd.int .i64) _ _ _ 1 [.int .i64 1] from rfl) (Reps.one (show Kd.M (Kd.int .i64) _ _ _ 12 [.int .i64 12] from rfl) (Reps.none _ _)))); intro v489 w16 ho17 hb hg_ hnew_; clear hg_ hnew_; (first | rw [← Ny488.out] at ho17 | (simp only [Int.reduceToNat] at ho17; rw [← Ny488.out] at ho17)); have n0_ := Aside0.mk (Kd.R_elder' (by (with_reducible repeat (first | apply Kd.R_alloc | apply Kd.R_drewN | apply Kd.R_drew)); exact HO_2.out) (Kd.R_base ho17) hb); have n1_ := Aside0.mk (Kd.R_lower (Kd.R_new' ho17 (Kd.R_lt (by (with_reducible repeat (first | apply Kd.R_alloc | apply Kd.R_drewN | apply Kd.R_drew)); exact HO_2.out))) (below_size (by repeat (first | (with_reducible first | exact HB.out | apply below_alloc | apply pw_below_drewN | apply below_drew1) | exact HB.out)))); have n2_ := Aside0.mk (below_step (by repeat (first | (with_reducible first | exact HB.out | apply below_alloc | apply pw_below_drewN | apply below_drew1) | exact HB.out)) hb); clear HO_2; clear HB; have HO_2 := n0_; have HO490 := n1_; have HB := n2_; clear n0_ n1_ n2_; clear hb ho17))
       go_ret
       exact ⟨_, by first | rfl | (simp [errW_none, errW_some] <;> rfl) | (simp [*, errW_none, errW_some] <;> rfl), by (with_reducible repeat (first | apply Kd.R_alloc | apply Kd.R_drewN | apply Kd.R_drew)); exact Kd.R_mono HO490.out (fun _ hk => trivial), by repeat (first | (with_reducible first | exact HB.out | apply below_alloc | apply pw_below_drewN | apply below_drew1) | exact HB.out)⟩
      ·rw [if_neg c15] at H
       have c15b0 : (a0 == 4) = false := beq_eq_false_iff_ne.mpr c15
       have c15b1 : (a0 != 4) = true := bne_iff_ne.mpr c15
       by_cases c18 : a0 = 5
       ·rw [if_pos c18] at H
        have c18b0 : (a0 == 5) = true := beq_iff_eq.mpr c18
        have c18b1 : (a0 != 5) = false := bne_eq_false_iff_eq.mpr c18
        clear c18
        obtain ⟨y491, hy491⟩ : ∃ y_ : List Int, y_ = (([0, 7] : List Int)) := ⟨_, rfl⟩
        replace H : (some y491) = some r := by first | (rw [hy491]; with_reducible exact H) | (have H2_ := (Option.bind_some _ _).symm.trans H; rw [hy491]; with_reducible exact H2_) | (have H2_ := (Option.bind_some _ _).symm.trans H; with_reducible exact H2_) | with_reducible exact H | (rw [hy491]; exact H) | exact H
        have Ny491 := Aside0.mk hy491
        clear hy491
        obtain rfl := Option.some.inj H
        go_wp2_with (first | ((with_reducible refine gate_dst (N := 20) rfl ?_); refine Kd.R_lit (Kd.int .i64) _ 3 ?hg (N := 20) ?hd (xs := ([0, 7] : List Int)) (inner := [.int .i64 0, .int .i64 7]) (ok := fun _ => True) (okp := fun _ => True) ?hr ?hp (fun _ hk => hk) trivial (Below.refl _ _) (Nat.le_refl _) (by simp) ?_; (case hd => rfl); (case hg => rfl); (case hr => first | (go_simp; done) | (go_simp; rfl)); (case hp => exact (Reps.one (show Kd.M (Kd.int .i64) _ _ _ 0 [.int .i64 0] from rfl) (Reps.one (show Kd.M (Kd.int .i64) _ _ _ 7 [.int .i64 7] from rfl) (Reps.none _ _)))); intro v492 w19 ho20 hb hg_ hnew_; clear hg_ hnew_; (first | rw [← Ny491.out] at ho20 | (simp only [Int.reduceToNat] at ho20; rw [← Ny491.out] at ho20)); have n0_ := Aside0.mk (Kd.R_elder' (by (with_reducible repeat (first | apply Kd.R_alloc | apply Kd.R_drewN | apply Kd.R_drew)); exact HO_2.out) (Kd.R_base ho20) hb); have n1_ := Aside0.mk (Kd.R_lower (Kd.R_new' ho20 (Kd.R_lt (by (with_reducible repeat (first | apply Kd.R_alloc | apply Kd.R_drewN | apply Kd.R_drew)); exact HO_2.out))) (below_size (by repeat (first | (with_reducible first | exact HB.out | apply below_alloc | apply pw_below_drewN | apply below_drew1) | exact HB.out)))); have n2_ := Aside0.mk (below_step (by repeat (first | (with_reducible first | exact HB.out | apply below_alloc | apply pw_below_drewN | apply below_drew1) | exact HB.out)) hb); clear HO_2; clear HB; have HO_2 := n0_; have HO493 := n1_; have HB := n2_; clear n0_ n1_ n2_; clear hb ho20))
        go_ret
        exact ⟨_, by first | rfl | (simp [errW_none, errW_some] <;> rfl) | (simp [*, errW_none, errW_some] <;> rfl), by (with_reducible repeat (first | apply Kd.R_alloc | apply Kd.R_drewN | apply Kd.R_drew)); exact Kd.R_mono HO493.out (fun _ hk => trivial), by repeat (first | (with_reducible first | exact HB.out | apply below_alloc | apply pw_below_drewN | apply below_drew1) | exact HB.out)⟩
       ·rw [if_neg c18] at H
        have c18b0 : (a0 == 5) = false := beq_eq_false_iff_ne.mpr c18
        have c18b1 : (a0 != 5) = true := bne_iff_ne.mpr c18
        by_cases c21 : a0 = 6
        ·rw [if_pos c21] at H
         have c21b0 : (a0 == 6) = true := beq_iff_eq.mpr c21
         have c21b1 : (a0 != 6) = false := bne_eq_false_iff_eq.mpr c21
         clear c21
         obtain ⟨y494, hy494⟩ : ∃ y_ : List Int, y_ = (([0, 9999] : List Int)) := ⟨_, rfl⟩
         replace H : (some y494) = some r := by first | (rw [hy494]; with_reducible exact H) | (have H2_ := (Option.bind_some _ _).symm.trans H; rw [hy494]; with_reducible exact H2_) | (have H2_ := (Option.bind_some _ _).symm.trans H; with_reducible exact H2_) | with_reducible exact H | (rw [hy494]; exact H) | exact H
         have Ny494 := Aside0.mk hy494
         clear hy494
         obtain rfl := Option.some.inj H
         go_wp2_with (first | ((with_reducible refine gate_dst (N := 23) rfl ?_); refine Kd.R_lit (Kd.int .i64) _ 3 ?hg (N := 23) ?hd (xs := ([0, 9999] : List Int)) (inner := [.int .i64 0, .int .i64 9999]) (ok := fun _ => True) (okp := fun _ => True) ?hr ?hp (fun _ hk => hk) trivial (Below.refl _ _) (Nat.le_refl _) (by simp) ?_; (case hd => rfl); (case hg => rfl); (case hr => first | (go_simp; done) | (go_simp; rfl)); (case hp => exact (Reps.one (show Kd.M (Kd.int .i64) _ _ _ 0 [.int .i64 0] from rfl) (Reps.one (show Kd.M (Kd.int .i64) _ _ _ 9999 [.int .i64 9999] from rfl) (Reps.none _ _)))); intro v495 w22 ho23 hb hg_ hnew_; clear hg_ hnew_; (first | rw [← Ny494.out] at ho23 | (simp only [Int.reduceToNat] at ho23; rw [← Ny494.out] at ho23)); have n0_ := Aside0.mk (Kd.R_elder' (by (with_reducible repeat (first | apply Kd.R_alloc | apply Kd.R_drewN | apply Kd.R_drew)); exact HO_2.out) (Kd.R_base ho23) hb); have n1_ := Aside0.mk (Kd.R_lower (Kd.R_new' ho23 (Kd.R_lt (by (with_reducible repeat (first | apply Kd.R_alloc | apply Kd.R_drewN | apply Kd.R_drew)); exact HO_2.out))) (below_size (by repeat (first | (with_reducible first | exact HB.out | apply below_alloc | apply pw_below_drewN | apply below_drew1) | exact HB.out)))); have n2_ := Aside0.mk (below_step (by repeat (first | (with_reducible first | exact HB.out | apply below_alloc | apply pw_below_drewN | apply below_drew1) | exact HB.out)) hb); clear HO_2; clear HB; have HO_2 := n0_; have HO496 := n1_; have HB := n2_; clear n0_ n1_ n2_; clear hb ho23))
         go_ret
         exact ⟨_, by first | rfl | (simp [errW_none, errW_some] <;> rfl) | (simp [*, errW_none, errW_some] <;> rfl), by (with_reducible repeat (first | apply Kd.R_alloc | apply Kd.R_drewN | apply Kd.R_drew)); exact Kd.R_mono HO496.out (fun _ hk => trivial), by repeat (first | (with_reducible first | exact HB.out | apply below_alloc | apply pw_below_drewN | apply below_drew1) | exact HB.out)⟩
        ·rw [if_neg c21] at H
         have c21b0 : (a0 == 6) = false := beq_eq_false_iff_ne.mpr c21
         have c21b1 : (a0 != 6) = true := bne_iff_ne.mpr c21
         obtain rfl := Option.some.inj H
         go_wp2
         go_ret
         exact ⟨_, by first | rfl | (simp [errW_none, errW_some] <;> rfl) | (simp [*, errW_none, errW_some] <;> rfl), by (with_reducible repeat (first | apply Kd.R_alloc | apply Kd.R_drewN | apply Kd.R_drew)); exact HO_2.out, by repeat (first | (with_reducible first | exact HB.out | apply below_alloc | apply pw_below_drewN | apply below_drew1) | exact HB.out)⟩
def gronx_zzContains.f (k : Nat) (a0 : ByteArray) (a1 : ByteArray) : Option (Bool) := (gronx_zzIndex.f k a0 a1).bind fun t497 => (some (decide (t497 ≥ 0)))
set_option maxHeartbeats 8000000 in
set_option maxRecDepth 100000 in
theorem gronx_zzContains.calls (k : Nat) (a0 : ByteArray) (a1 : ByteArray) (r : Bool) (w : World) (h : gronx_zzContains.f k a0 a1 = some r) :
  Calls Tryz.prog 133 #[.string a0, .string a1] w fun e w' => e = .returned (.bool r) ∧ Drawn0 w w' := by
 have H : ((gronx_zzIndex.f k a0 a1).bind fun t497 => (some (decide (t497 ≥ 0)))) = some r := h
 clear h
 replace H := Option.bind_eq_some_iff.mp H
 obtain ⟨t497, A30, H⟩ := H
 replace H : (some (decide (t497 ≥ 0))) = some r := H
 have A3 := Aside0.mk A30
 clear A30
 obtain rfl := Option.some.inj H
 go_enter Tryz.func133, Tryz.ntmps133
 go_wp2_with (first | ((with_reducible refine gate_callee (f := 50) rfl ?_); refine goesL_ (some 7) rfl rfl Tryz.func50 (by kernel_rfl) rfl #[.string a0, .string a1] rfl (by (try simp only [List.map_toArray, List.map_cons, List.map_nil]); first | done | rfl | (simp only [List.length_drop, List.length_take]; rfl)) ?_; (with_reducible refine (gronx_zzIndex.calls k a0 a1 t497 _ A3.out).mono ?_); rintro e w' ⟨rfl, ⟨nd, rfl⟩⟩; refine ⟨_, rfl, ?_⟩))
 go_ret
 exact ⟨by first | rfl | (simp; done) | (simp [*]; done), by repeat (first | exact Drawn0.refl _ | apply Drawn0.step)⟩
end Go.Proofs.YtemgofomhjabpaaGreatDoor.Core
namespace Go.Proofs.YtemgofomhjabpaaGreatDoor.Core
open Go.RowKit Go.Proofs.YtemgofomhjabpaaGreatDoorW.PrintWords
def strconv_Atoi.f (a0 : ByteArray) : Option (Int × Option Int) := if a0.size ≤ 18 then ((Lib.atoi a0.data.toList).bind fun n => some (n, none)) else none
theorem strconv_Atoi.calls (a0 : ByteArray) (r1 : Int) (r2 : Option Int) (w : World) (h : strconv_Atoi.f a0 = some (r1, r2)) :
  Calls Tryz.prog 136 #[.string a0] w fun e w' => e = .returned (.tuple #[.int .i64 r1, errW r2]) ∧ Below w.heap.size w w' := by
 unfold strconv_Atoi.f at h
 split at h
 ·rename_i h1
  obtain ⟨n, hn, h⟩ := Option.bind_eq_some_iff.1 h
  simp only [Option.some.injEq, Prod.mk.injEq] at h
  obtain ⟨rfl, rfl⟩ := h
  refine (Tryz.strconv_Atoi a0 n h1 hn w).mono ?_
  rintro e w' ⟨rfl, t, rfl⟩
  exact ⟨rfl, bytes_below (Below.refl _ _) (Nat.le_refl _) _ _⟩
 ·cases h
def InC (f : FuncId) (val : Int) (s : ByteArray) (t : List Int) (wd r : Bool) : Prop := ∀ (A : Option Addr) (cc : Nat) (w : World), Kd.C (Kd.int .i64) w A t.length t → t.length ≤ cc → Calls Tryz.prog f #[.int .i64 val, .string s, .slice A t.length cc, .bool wd] w fun e w' => e = .returned (.tuple #[.bool r, .nilIface]) ∧ Below w.heap.size w w'
theorem two_at {w : World} {A : Option Addr} {P : List ByteArray} {n : Nat} (h : Kd.C Kd.string w A n P) (hn : n = P.length) (h2 : 1 < P.length) : ∃ ad, A = some ad ∧ w.cell? ad = some (.string (rdOf ByteArray.empty P 0)) ∧ w.cell? ⟨ad.block, ad.off + 1, none⟩ = some (.string (rdOf ByteArray.empty P 1)) := by
 subst hn
 obtain ⟨ad, rfl, hx0⟩ := Kd.at_string h 0 (by omega) (by omega)
 obtain ⟨ad', ea, hx1⟩ := Kd.at_string h 1 (by omega) (by omega)
 obtain rfl := Option.some.inj ea
 exact ⟨ad, rfl, hx0, hx1⟩
theorem two_int {w : World} {A : Option Addr} {t : List Int} {n : Nat} (h : Kd.C (Kd.int .i64) w A n t) (hn : n = t.length) (h2 : 1 < t.length) : ∃ ad, A = some ad ∧ w.cell? ad = some (.int .i64 (rd t 0)) ∧ w.cell? ⟨ad.block, ad.off + 1, none⟩ = some (.int .i64 (rd t 1)) := by
 subst hn
 obtain ⟨ad, rfl, hx0⟩ := Kd.at_int h 0 (by omega) (by omega)
 obtain ⟨ad', ea, hx1⟩ := Kd.at_int h 1 (by omega) (by omega)
 obtain rfl := Option.some.inj ea
 exact ⟨ad, rfl, hx0, hx1⟩
set_option maxRecDepth 100000 in
set_option maxHeartbeats 800000 in
theorem sstep_w (val step : Int) (s : ByteArray) (t : List Int) (wd : Bool) (k : Nat) (P : List ByteArray) (hs : gronx_zzSplit.f k s ⟨#[47]⟩ = some P) (hP : P.length = 2) (ha : strconv_Atoi.f (rdOf ByteArray.empty P 1) = some (step, none)) (s0 : 1 ≤ step) (s1 : step ≤ 1000) (hi : gronx_zzIndex.f k s ⟨#[42, 47]⟩ = some 0) (ht : t.length = 2) (hv0 : rd t 0 ≤ val) (hv1 : val ≤ 100000) (hv2 : 0 ≤ rd t 0) : InC 134 val s t wd (decide ((val - rd t 0) % step = 0)) := by
 intro A cc w hC hcc
 have hs := Aside0.mk hs
 have ha := Aside0.mk ha
 have hi := Aside0.mk hi
 obtain ⟨ab, rfl, u0, u1⟩ := two_int hC rfl (by omega)
 have hm : Int.tmod (val - rd t 0) step = (val - rd t 0) % step := Int.tmod_eq_emod_of_nonneg (by omega)
 have qi0 : (0 < t.length) = True := eq_true (by omega)
 have qi1 : (0 < (t.length : Int)) = True := eq_true (by omega)
 have qp0 : (1 < P.length) = True := eq_true (by omega)
 have qp1 : (1 < (P.length : Int)) = True := eq_true (by omega)
 have n0 : ¬ step ≤ 0 := by omega
 have n1 : step ≠ 0 := by omega
 have hw : wrap64 (val - rd t 0) = val - rd t 0 := by unfold wrap64; omega
 generalize rd t 0 = lo at *
 go_enter Tryz.func134, Tryz.ntmps134
 go_wp2_with (first | (go_at_call 62; refine (gronx_zzSplit.calls k _ _ _ _ hs.out).mono ?_; rintro e w1 ⟨v0, rfl, hR, hb1⟩; obtain ⟨A1, c1, rfl⟩ := Kd.R_slice hR; obtain ⟨ad, rfl, y0, y1⟩ := two_at (Kd.R_reads' hR).2.2 rfl (by omega); have u2 := cell_after hb1 u0) | (go_at_call 136; refine (strconv_Atoi.calls _ _ _ _ ha.out).mono ?_; rintro e w2 ⟨rfl, hb2⟩; have u3 := cell_after hb2 u2; rw [errW_none]) | (go_at_call 50; refine (gronx_zzIndex.calls k _ _ _ _ hi.out).mono ?_; rintro e wz ⟨rfl, ⟨nd, rfl⟩⟩))
 go_ret2
 exact ⟨by first | rfl | simp, below_step (by repeat (first | exact hb1 | apply pw_below_drewN)) hb2 |> fun h => by repeat (first | exact h | apply pw_below_drewN)⟩
set_option maxRecDepth 100000 in
set_option maxHeartbeats 800000 in
theorem rstep_plain (val step a b : Int) (s : ByteArray) (t : List Int) (k : Nat) (P Q : List ByteArray) (i1 i2 : Int) (hs : gronx_zzSplit.f k s ⟨#[47]⟩ = some P) (hP : P.length = 2) (ha : strconv_Atoi.f (rdOf ByteArray.empty P 1) = some (step, none)) (s0 : 1 ≤ step) (hi : gronx_zzIndex.f k s ⟨#[42, 47]⟩ = some i1) (h1 : i1 ≠ 0) (hj : gronx_zzIndex.f k s ⟨#[48, 47]⟩ = some i2) (h2 : i2 ≠ 0) (hs2 : gronx_zzSplit.f k (rdOf ByteArray.empty P 0) ⟨#[45]⟩ = some Q) (hQ : Q.length = 2) (ha0 : strconv_Atoi.f (rdOf ByteArray.empty Q 0) = some (a, none)) (ha1 : strconv_Atoi.f (rdOf ByteArray.empty Q 1) = some (b, none)) (ht : t.length = 2) (hab : a ≤ b) (hlo : rd t 0 ≤ a) (hhi : b ≤ rd t 1) (r : Bool) (hr : gronx_inStepRange.f k val a b step = some r) : InC 134 val s t false r := by
 intro A cc w hC hcc
 have hs := Aside0.mk hs
 have ha := Aside0.mk ha
 have hi := Aside0.mk hi
 have hj := Aside0.mk hj
 have hs2 := Aside0.mk hs2
 have ha0 := Aside0.mk ha0
 have ha1 := Aside0.mk ha1
 have hr := Aside0.mk hr
 obtain ⟨ab, rfl, u0, u1⟩ := two_int hC rfl (by omega)
 have qi0 : (0 < t.length) = True := eq_true (by omega)
 have qi1 : (0 < (t.length : Int)) = True := eq_true (by omega)
 have qi2 : (1 < t.length) = True := eq_true (by omega)
 have qi3 : (1 < (t.length : Int)) = True := eq_true (by omega)
 have qp0 : (1 < P.length) = True := eq_true (by omega)
 have qp1 : (1 < (P.length : Int)) = True := eq_true (by omega)
 have qp2 : (0 < P.length) = True := eq_true (by omega)
 have qp3 : (0 < (P.length : Int)) = True := eq_true (by omega)
 have qq0 : (1 < Q.length) = True := eq_true (by omega)
 have qq1 : (1 < (Q.length : Int)) = True := eq_true (by omega)
 have qq2 : (0 < Q.length) = True := eq_true (by omega)
 have qq3 : (0 < (Q.length : Int)) = True := eq_true (by omega)
 have n0 : ¬ step ≤ 0 := by omega
 have n1 : (i1 == 0) = false := beq_eq_false_iff_ne.mpr h1
 have n2 : (i2 == 0) = false := beq_eq_false_iff_ne.mpr h2
 generalize rd t 0 = lo at *
 generalize rd t 1 = hi' at *
 have n3 : ¬ b < a := by omega
 have n4 : ¬ a < lo := by omega
 have n5 : ¬ hi' < b := by omega
 go_enter Tryz.func134, Tryz.ntmps134
 go_wp2_with (first | (go_at_call 62; refine (gronx_zzSplit.calls k _ _ _ _ hs.out).mono ?_; rintro e w1 ⟨v0, rfl, hR, hb1⟩; obtain ⟨A1, c1, rfl⟩ := Kd.R_slice hR; obtain ⟨ad, rfl, y0, y1⟩ := two_at (Kd.R_reads' hR).2.2 rfl (by omega); have u2 := cell_after hb1 u0; have u3 := cell_after hb1 u1; clear hs) | (go_at_call 136; refine (strconv_Atoi.calls _ _ _ _ ha.out).mono ?_; rintro e w2 ⟨rfl, hb2⟩; have u4 := cell_after hb2 u2; have u5 := cell_after hb2 u3; have y2 := cell_after hb2 y0; rw [errW_none]; clear ha) | (go_at_call 50; refine (gronx_zzIndex.calls k _ _ _ _ hi.out).mono ?_; rintro e wz ⟨rfl, ⟨nd, rfl⟩⟩; clear hi) | (go_at_call 50; refine (gronx_zzIndex.calls k _ _ _ _ hj.out).mono ?_; rintro e wz ⟨rfl, ⟨nd2, rfl⟩⟩; clear hj) | (go_at_call 62; refine (gronx_zzSplit.calls k _ _ _ _ hs2.out).mono ?_; rintro e w3 ⟨v2, rfl, hR2, hb3⟩; obtain ⟨A2, c2, rfl⟩ := Kd.R_slice hR2; obtain ⟨ae, rfl, z0, z1⟩ := two_at (Kd.R_reads' hR2).2.2 rfl (by omega); have hb3' : Below w2.heap.size w2 w3 := below_step (by repeat (first | exact Below.refl _ _ | apply pw_below_drewN)) hb3; have u6 := cell_after hb3' u4; have u7 := cell_after hb3' u5; clear hs2) | (go_at_call 136; refine (strconv_Atoi.calls _ _ _ _ ha0.out).mono ?_; rintro e w4 ⟨rfl, hb4⟩; have u8 := cell_after hb4 u6; have u9 := cell_after hb4 u7; have z2 := cell_after hb4 z1; rw [errW_none]; clear ha0) | (go_at_call 136; refine (strconv_Atoi.calls _ _ _ _ ha1.out).mono ?_; rintro e w5 ⟨rfl, hb5⟩; have v8 := cell_after hb5 u8; have v9 := cell_after hb5 u9; rw [errW_none]; clear ha1) | (go_at_call 147; refine (gronx_inStepRange.calls k _ _ _ _ _ _ hr.out).mono ?_; rintro e wr ⟨rfl, ⟨nd3, rfl⟩⟩; clear hr))
 go_ret2
 exact ⟨by first | rfl | simp, by repeat (first | exact below_step (below_step (below_step (below_step hb1 hb2) hb3') hb4) hb5 | apply pw_below_drewN)⟩
set_option maxRecDepth 100000 in
set_option maxHeartbeats 800000 in
theorem rstep_wd (val step a b : Int) (s : ByteArray) (t : List Int) (k : Nat) (P Q : List ByteArray) (i1 i2 : Int) (hs : gronx_zzSplit.f k s ⟨#[47]⟩ = some P) (hP : P.length = 2) (ha : strconv_Atoi.f (rdOf ByteArray.empty P 1) = some (step, none)) (s0 : 1 ≤ step) (hi : gronx_zzIndex.f k s ⟨#[42, 47]⟩ = some i1) (h1 : i1 ≠ 0) (hj : gronx_zzIndex.f k s ⟨#[48, 47]⟩ = some i2) (h2 : i2 ≠ 0) (hs2 : gronx_zzSplit.f k (rdOf ByteArray.empty P 0) ⟨#[45]⟩ = some Q) (hQ : Q.length = 2) (ha0 : strconv_Atoi.f (rdOf ByteArray.empty Q 0) = some (a, none)) (ha1 : strconv_Atoi.f (rdOf ByteArray.empty Q 1) = some (b, none)) (ht : t.length = 2) (hab : a ≤ b) (hlo : rd t 0 ≤ a) (hhi : b ≤ rd t 1) (a6 : a ≤ 6) (hv : val ≠ 0) (r : Bool) (hr : gronx_inStepRange.f k val a b step = some r) : InC 134 val s t true r := by
 intro A cc w hC hcc
 have hs := Aside0.mk hs
 have ha := Aside0.mk ha
 have hi := Aside0.mk hi
 have hj := Aside0.mk hj
 have hs2 := Aside0.mk hs2
 have ha0 := Aside0.mk ha0
 have ha1 := Aside0.mk ha1
 have hr := Aside0.mk hr
 obtain ⟨ab, rfl, u0, u1⟩ := two_int hC rfl (by omega)
 have qi0 : (0 < t.length) = True := eq_true (by omega)
 have qi1 : (0 < (t.length : Int)) = True := eq_true (by omega)
 have qi2 : (1 < t.length) = True := eq_true (by omega)
 have qi3 : (1 < (t.length : Int)) = True := eq_true (by omega)
 have qp0 : (1 < P.length) = True := eq_true (by omega)
 have qp1 : (1 < (P.length : Int)) = True := eq_true (by omega)
 have qp2 : (0 < P.length) = True := eq_true (by omega)
 have qp3 : (0 < (P.length : Int)) = True := eq_true (by omega)
 have qq0 : (1 < Q.length) = True := eq_true (by omega)
 have qq1 : (1 < (Q.length : Int)) = True := eq_true (by omega)
 have qq2 : (0 < Q.length) = True := eq_true (by omega)
 have qq3 : (0 < (Q.length : Int)) = True := eq_true (by omega)
 have n0 : ¬ step ≤ 0 := by omega
 have n1 : (i1 == 0) = false := beq_eq_false_iff_ne.mpr h1
 have n2 : (i2 == 0) = false := beq_eq_false_iff_ne.mpr h2
 generalize rd t 0 = lo at *
 generalize rd t 1 = hi' at *
 have n3 : ¬ b < a := by omega
 have n4 : ¬ a < lo := by omega
 have n5 : ¬ hi' < b := by omega
 have n6 : (a == 7) = false := beq_eq_false_iff_ne.mpr (by omega)
 have n7 : (val == 0) = false := beq_eq_false_iff_ne.mpr hv
 go_enter Tryz.func134, Tryz.ntmps134
 go_wp2_with (first | (go_at_call 62; refine (gronx_zzSplit.calls k _ _ _ _ hs.out).mono ?_; rintro e w1 ⟨v0, rfl, hR, hb1⟩; obtain ⟨A1, c1, rfl⟩ := Kd.R_slice hR; obtain ⟨ad, rfl, y0, y1⟩ := two_at (Kd.R_reads' hR).2.2 rfl (by omega); have u2 := cell_after hb1 u0; have u3 := cell_after hb1 u1; clear hs) | (go_at_call 136; refine (strconv_Atoi.calls _ _ _ _ ha.out).mono ?_; rintro e w2 ⟨rfl, hb2⟩; have u4 := cell_after hb2 u2; have u5 := cell_after hb2 u3; have y2 := cell_after hb2 y0; rw [errW_none]; clear ha) | (go_at_call 50; refine (gronx_zzIndex.calls k _ _ _ _ hi.out).mono ?_; rintro e wz ⟨rfl, ⟨nd, rfl⟩⟩; clear hi) | (go_at_call 50; refine (gronx_zzIndex.calls k _ _ _ _ hj.out).mono ?_; rintro e wz ⟨rfl, ⟨nd2, rfl⟩⟩; clear hj) | (go_at_call 62; refine (gronx_zzSplit.calls k _ _ _ _ hs2.out).mono ?_; rintro e w3 ⟨v2, rfl, hR2, hb3⟩; obtain ⟨A2, c2, rfl⟩ := Kd.R_slice hR2; obtain ⟨ae, rfl, z0, z1⟩ := two_at (Kd.R_reads' hR2).2.2 rfl (by omega); have hb3' : Below w2.heap.size w2 w3 := below_step (by repeat (first | exact Below.refl _ _ | apply pw_below_drewN)) hb3; have u6 := cell_after hb3' u4; have u7 := cell_after hb3' u5; clear hs2) | (go_at_call 136; refine (strconv_Atoi.calls _ _ _ _ ha0.out).mono ?_; rintro e w4 ⟨rfl, hb4⟩; have u8 := cell_after hb4 u6; have u9 := cell_after hb4 u7; have z2 := cell_after hb4 z1; rw [errW_none]; clear ha0) | (go_at_call 136; refine (strconv_Atoi.calls _ _ _ _ ha1.out).mono ?_; rintro e w5 ⟨rfl, hb5⟩; have v8 := cell_after hb5 u8; have v9 := cell_after hb5 u9; rw [errW_none]; clear ha1) | (go_at_call 147; refine (gronx_inStepRange.calls k _ _ _ _ _ _ hr.out).mono ?_; rintro e wr ⟨rfl, ⟨nd3, rfl⟩⟩; clear hr))
 go_ret2
 exact ⟨by first | rfl | simp, by repeat (first | exact below_step (below_step (below_step (below_step hb1 hb2) hb3') hb4) hb5 | apply pw_below_drewN)⟩
set_option maxRecDepth 100000 in
set_option maxHeartbeats 800000 in
theorem rstep_zero_yes (step a b : Int) (s : ByteArray) (t : List Int) (k : Nat) (P Q : List ByteArray) (i1 i2 : Int) (hs : gronx_zzSplit.f k s ⟨#[47]⟩ = some P) (hP : P.length = 2) (ha : strconv_Atoi.f (rdOf ByteArray.empty P 1) = some (step, none)) (s0 : 1 ≤ step) (hi : gronx_zzIndex.f k s ⟨#[42, 47]⟩ = some i1) (h1 : i1 ≠ 0) (hj : gronx_zzIndex.f k s ⟨#[48, 47]⟩ = some i2) (h2 : i2 ≠ 0) (hs2 : gronx_zzSplit.f k (rdOf ByteArray.empty P 0) ⟨#[45]⟩ = some Q) (hQ : Q.length = 2) (ha0 : strconv_Atoi.f (rdOf ByteArray.empty Q 0) = some (a, none)) (ha1 : strconv_Atoi.f (rdOf ByteArray.empty Q 1) = some (b, none)) (ht : t.length = 2) (hab : a ≤ b) (hlo : rd t 0 ≤ a) (hhi : b ≤ rd t 1) (a6 : a ≤ 6) (hr : gronx_inStepRange.f k 0 a b step = some true) : InC 134 0 s t true true := by
 intro A cc w hC hcc
 have hs := Aside0.mk hs
 have ha := Aside0.mk ha
 have hi := Aside0.mk hi
 have hj := Aside0.mk hj
 have hs2 := Aside0.mk hs2
 have ha0 := Aside0.mk ha0
 have ha1 := Aside0.mk ha1
 have hr := Aside0.mk hr
 obtain ⟨ab, rfl, u0, u1⟩ := two_int hC rfl (by omega)
 have qi0 : (0 < t.length) = True := eq_true (by omega)
 have qi1 : (0 < (t.length : Int)) = True := eq_true (by omega)
 have qi2 : (1 < t.length) = True := eq_true (by omega)
 have qi3 : (1 < (t.length : Int)) = True := eq_true (by omega)
 have qp0 : (1 < P.length) = True := eq_true (by omega)
 have qp1 : (1 < (P.length : Int)) = True := eq_true (by omega)
 have qp2 : (0 < P.length) = True := eq_true (by omega)
 have qp3 : (0 < (P.length : Int)) = True := eq_true (by omega)
 have qq0 : (1 < Q.length) = True := eq_true (by omega)
 have qq1 : (1 < (Q.length : Int)) = True := eq_true (by omega)
 have qq2 : (0 < Q.length) = True := eq_true (by omega)
 have qq3 : (0 < (Q.length : Int)) = True := eq_true (by omega)
 have n0 : ¬ step ≤ 0 := by omega
 have n1 : (i1 == 0) = false := beq_eq_false_iff_ne.mpr h1
 have n2 : (i2 == 0) = false := beq_eq_false_iff_ne.mpr h2
 generalize rd t 0 = lo at *
 generalize rd t 1 = hi' at *
 have n3 : ¬ b < a := by omega
 have n4 : ¬ a < lo := by omega
 have n5 : ¬ hi' < b := by omega
 have n6 : (a == 7) = false := beq_eq_false_iff_ne.mpr (by omega)
 go_enter Tryz.func134, Tryz.ntmps134
 go_wp2_with (first | (go_at_call 62; refine (gronx_zzSplit.calls k _ _ _ _ hs.out).mono ?_; rintro e w1 ⟨v0, rfl, hR, hb1⟩; obtain ⟨A1, c1, rfl⟩ := Kd.R_slice hR; obtain ⟨ad, rfl, y0, y1⟩ := two_at (Kd.R_reads' hR).2.2 rfl (by omega); have u2 := cell_after hb1 u0; have u3 := cell_after hb1 u1; clear hs) | (go_at_call 136; refine (strconv_Atoi.calls _ _ _ _ ha.out).mono ?_; rintro e w2 ⟨rfl, hb2⟩; have u4 := cell_after hb2 u2; have u5 := cell_after hb2 u3; have y2 := cell_after hb2 y0; rw [errW_none]; clear ha) | (go_at_call 50; refine (gronx_zzIndex.calls k _ _ _ _ hi.out).mono ?_; rintro e wz ⟨rfl, ⟨nd, rfl⟩⟩; clear hi) | (go_at_call 50; refine (gronx_zzIndex.calls k _ _ _ _ hj.out).mono ?_; rintro e wz ⟨rfl, ⟨nd2, rfl⟩⟩; clear hj) | (go_at_call 62; refine (gronx_zzSplit.calls k _ _ _ _ hs2.out).mono ?_; rintro e w3 ⟨v2, rfl, hR2, hb3⟩; obtain ⟨A2, c2, rfl⟩ := Kd.R_slice hR2; obtain ⟨ae, rfl, z0, z1⟩ := two_at (Kd.R_reads' hR2).2.2 rfl (by omega); have hb3' : Below w2.heap.size w2 w3 := below_step (by repeat (first | exact Below.refl _ _ | apply pw_below_drewN)) hb3; have u6 := cell_after hb3' u4; have u7 := cell_after hb3' u5; clear hs2) | (go_at_call 136; refine (strconv_Atoi.calls _ _ _ _ ha0.out).mono ?_; rintro e w4 ⟨rfl, hb4⟩; have u8 := cell_after hb4 u6; have u9 := cell_after hb4 u7; have z2 := cell_after hb4 z1; rw [errW_none]; clear ha0) | (go_at_call 136; refine (strconv_Atoi.calls _ _ _ _ ha1.out).mono ?_; rintro e w5 ⟨rfl, hb5⟩; have v8 := cell_after hb5 u8; have v9 := cell_after hb5 u9; rw [errW_none]; clear ha1) | (go_at_call 147; refine (gronx_inStepRange.calls k _ _ _ _ _ _ hr.out).mono ?_; rintro e wr ⟨rfl, ⟨nd3, rfl⟩⟩; clear hr))
 go_ret2
 exact ⟨by first | rfl | simp, by repeat (first | exact below_step (below_step (below_step (below_step hb1 hb2) hb3') hb4) hb5 | apply pw_below_drewN)⟩
set_option maxRecDepth 100000 in
set_option maxHeartbeats 800000 in
theorem rstep_zero_no (step a b : Int) (s : ByteArray) (t : List Int) (k : Nat) (P Q : List ByteArray) (i1 i2 : Int) (hs : gronx_zzSplit.f k s ⟨#[47]⟩ = some P) (hP : P.length = 2) (ha : strconv_Atoi.f (rdOf ByteArray.empty P 1) = some (step, none)) (s0 : 1 ≤ step) (hi : gronx_zzIndex.f k s ⟨#[42, 47]⟩ = some i1) (h1 : i1 ≠ 0) (hj : gronx_zzIndex.f k s ⟨#[48, 47]⟩ = some i2) (h2 : i2 ≠ 0) (hs2 : gronx_zzSplit.f k (rdOf ByteArray.empty P 0) ⟨#[45]⟩ = some Q) (hQ : Q.length = 2) (ha0 : strconv_Atoi.f (rdOf ByteArray.empty Q 0) = some (a, none)) (ha1 : strconv_Atoi.f (rdOf ByteArray.empty Q 1) = some (b, none)) (ht : t.length = 2) (hab : a ≤ b) (hlo : rd t 0 ≤ a) (hhi : b ≤ rd t 1) (a6 : a ≤ 6) (r : Bool) (hr : gronx_inStepRange.f k 0 a b step = some false) (hr7 : gronx_inStepRange.f k 7 a b step = some r) : InC 134 0 s t true r := by
 intro A cc w hC hcc
 have hs := Aside0.mk hs
 have ha := Aside0.mk ha
 have hi := Aside0.mk hi
 have hj := Aside0.mk hj
 have hs2 := Aside0.mk hs2
 have ha0 := Aside0.mk ha0
 have ha1 := Aside0.mk ha1
 have hr := Aside0.mk hr
 have hr7 := Aside0.mk hr7
 obtain ⟨ab, rfl, u0, u1⟩ := two_int hC rfl (by omega)
 have qi0 : (0 < t.length) = True := eq_true (by omega)
 have qi1 : (0 < (t.length : Int)) = True := eq_true (by omega)
 have qi2 : (1 < t.length) = True := eq_true (by omega)
 have qi3 : (1 < (t.length : Int)) = True := eq_true (by omega)
 have qp0 : (1 < P.length) = True := eq_true (by omega)
 have qp1 : (1 < (P.length : Int)) = True := eq_true (by omega)
 have qp2 : (0 < P.length) = True := eq_true (by omega)
 have qp3 : (0 < (P.length : Int)) = True := eq_true (by omega)
 have qq0 : (1 < Q.length) = True := eq_true (by omega)
 have qq1 : (1 < (Q.length : Int)) = True := eq_true (by omega)
 have qq2 : (0 < Q.length) = True := eq_true (by omega)
 have qq3 : (0 < (Q.length : Int)) = True := eq_true (by omega)
 have n0 : ¬ step ≤ 0 := by omega
 have n1 : (i1 == 0) = false := beq_eq_false_iff_ne.mpr h1
 have n2 : (i2 == 0) = false := beq_eq_false_iff_ne.mpr h2
 generalize rd t 0 = lo at *
 generalize rd t 1 = hi' at *
 have n3 : ¬ b < a := by omega
 have n4 : ¬ a < lo := by omega
 have n5 : ¬ hi' < b := by omega
 have n6 : (a == 7) = false := beq_eq_false_iff_ne.mpr (by omega)
 go_enter Tryz.func134, Tryz.ntmps134
 go_wp2_with (first | (go_at_call 62; refine (gronx_zzSplit.calls k _ _ _ _ hs.out).mono ?_; rintro e w1 ⟨v0, rfl, hR, hb1⟩; obtain ⟨A1, c1, rfl⟩ := Kd.R_slice hR; obtain ⟨ad, rfl, y0, y1⟩ := two_at (Kd.R_reads' hR).2.2 rfl (by omega); have u2 := cell_after hb1 u0; have u3 := cell_after hb1 u1; clear hs) | (go_at_call 136; refine (strconv_Atoi.calls _ _ _ _ ha.out).mono ?_; rintro e w2 ⟨rfl, hb2⟩; have u4 := cell_after hb2 u2; have u5 := cell_after hb2 u3; have y2 := cell_after hb2 y0; rw [errW_none]; clear ha) | (go_at_call 50; refine (gronx_zzIndex.calls k _ _ _ _ hi.out).mono ?_; rintro e wz ⟨rfl, ⟨nd, rfl⟩⟩; clear hi) | (go_at_call 50; refine (gronx_zzIndex.calls k _ _ _ _ hj.out).mono ?_; rintro e wz ⟨rfl, ⟨nd2, rfl⟩⟩; clear hj) | (go_at_call 62; refine (gronx_zzSplit.calls k _ _ _ _ hs2.out).mono ?_; rintro e w3 ⟨v2, rfl, hR2, hb3⟩; obtain ⟨A2, c2, rfl⟩ := Kd.R_slice hR2; obtain ⟨ae, rfl, z0, z1⟩ := two_at (Kd.R_reads' hR2).2.2 rfl (by omega); have hb3' : Below w2.heap.size w2 w3 := below_step (by repeat (first | exact Below.refl _ _ | apply pw_below_drewN)) hb3; have u6 := cell_after hb3' u4; have u7 := cell_after hb3' u5; clear hs2) | (go_at_call 136; refine (strconv_Atoi.calls _ _ _ _ ha0.out).mono ?_; rintro e w4 ⟨rfl, hb4⟩; have u8 := cell_after hb4 u6; have u9 := cell_after hb4 u7; have z2 := cell_after hb4 z1; rw [errW_none]; clear ha0) | (go_at_call 136; refine (strconv_Atoi.calls _ _ _ _ ha1.out).mono ?_; rintro e w5 ⟨rfl, hb5⟩; have v8 := cell_after hb5 u8; have v9 := cell_after hb5 u9; rw [errW_none]; clear ha1) | (go_at_call 147; refine (gronx_inStepRange.calls k _ _ _ _ _ _ hr.out).mono ?_; rintro e wr ⟨rfl, ⟨nd3, rfl⟩⟩; clear hr) | (go_at_call 147; refine (gronx_inStepRange.calls k _ _ _ _ _ _ hr7.out).mono ?_; rintro e wr ⟨rfl, ⟨nd4, rfl⟩⟩; clear hr7))
 go_ret2
 exact ⟨by first | rfl | simp, by repeat (first | exact below_step (below_step (below_step (below_step hb1 hb2) hb3') hb4) hb5 | apply pw_below_drewN)⟩
end Go.Proofs.YtemgofomhjabpaaGreatDoor.Core
