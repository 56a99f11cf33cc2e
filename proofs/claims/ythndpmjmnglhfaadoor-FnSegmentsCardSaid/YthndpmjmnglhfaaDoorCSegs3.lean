/-
  PROVED: THE CARD OF laws.FnSegments: for every expression that comes in, the call returns true, and the argument reads as it did.
  CONDITIONS: the row's own ('laid': three tables of Go's library read as the row lists them; the tie is given).
-/
import Derived.Test.YthndpmjmnglhfaaDoorCSegs1
import Derived.Test.YthndpmjmnglhfaaDoorCSegs2
import Derived.Test.YthndpmjmnglhfaaDoorWWords
import Derived.Test.YthndpmjmnglhfaaDoorWNEv
import Derived.Lib.Strings
import Derived.Deep.Slices
import Derived.Deep.Fields
import Derived.ChangeSame
import Derived.Lib.SmallJoins
import Derived.WideShapes
import Derived.Test.YthndpmjmnglhfaaDoorCards
import Derived.Test.YthndpmjmnglhfaaDoorTie
import Derived.ProofKit
import Derived.OpenShut
import Derived.LaidMore
import Derived.Lay
import Derived.SevenTiedAt
import Derived.Carry
namespace Go.Proofs.YthndpmjmnglhfaaDoor.Core
open Go.RowKit Go.Proofs.YthndpmjmnglhfaaDoorW.PrintWords Go.Proofs.YthndpmjmnglhfaaDoorW.PrintLast Go.Proofs.YthndpmjmnglhfaaDoorW.PrintMore
attribute [local go_sem] max2_int min2_int max_two min_two max_three min_three max_four min_four   -- for this text's walks alone
set_option linter.unusedVariables false
set_option linter.unusedSimpArgs false

/-! ### laws_FnSegments: function 3 -/
mutual
def laws_FnSegments.j0 : Nat → List ByteArray → Bool → List (List (S41)) → Bool → Option (Bool)
  | 0, _, _, _, _ => none
  | k + 1, x4, x28, x234000, x234001 => if x28 = true then (some false) else (laws_FnSegments.l0 k x4 x234000 (x234000.length : Int) 0)
def laws_FnSegments.l0 : Nat → List ByteArray → List (List (S41)) → Int → Int → Option (Bool)
  | 0, _, _, _, _ => none
  | k + 1, x4, x30, x31, x32 => if x32 < x31 then (if 0 ≤ x32 then (if x32 < (x30.length : Int) then (if x32 < (x4.length : Int) then ((spec_FieldText.f k (rd_L5 x30 x32)).bind fun t242 => (if (rdOf ByteArray.empty x4 x32).toList = t242.toList then (laws_FnSegments.l0 k x4 x30 x31 (wrap64 (x32 + 1))) else (some false))) else (none)) else (none)) else (none)) else (some true)
end
def laws_FnSegments.f (k : Nat) (l0_0 : List (List (S40))) (a0_1 : Bool) : Option (Bool) := (laws_zzFits1.f k l0_0 a0_1).bind fun t228 => (if t228 = true then ((laws_expr.f k l0_0 a0_1).bind fun bt229 => ((spec_ExprGood.f k bt229.1 bt229.2).bind fun t234 => (if t234 = true then ((spec_Text.f k bt229.1 bt229.2).bind fun t235 => ((impl_Parts.f k t235).bind fun bt236 => (if bt236.2 = true then (laws_FnSegments.j0 k bt236.1 ((bt236.1.length : Int) != 6) bt229.1 bt229.2) else (laws_FnSegments.j0 k bt236.1 true bt229.1 bt229.2)))) else (some true)))) else (some true))
theorem laws_FnSegments.mono_l : ∀ k, (∀ y0 y1 y2 y3, LeO (laws_FnSegments.j0 k y0 y1 y2 y3) (laws_FnSegments.j0 (k + 1) y0 y1 y2 y3)) ∧ (∀ y0 y1 y2 y3, LeO (laws_FnSegments.l0 k y0 y1 y2 y3) (laws_FnSegments.l0 (k + 1) y0 y1 y2 y3))
  | 0 => ⟨fun _ _ _ _ r h => by simp [laws_FnSegments.j0] at h, fun _ _ _ _ r h => by simp [laws_FnSegments.l0] at h⟩
  | k + 1 => by
    obtain ⟨ih0, ih1⟩ := laws_FnSegments.mono_l k
    refine ⟨?_, ?_⟩
    · intro y0 y1 y2 y3
      unfold laws_FnSegments.j0
      repeat' first
      | (with_reducible exact ih0 _ _ _ _)
      | (with_reducible exact ih1 _ _ _ _)
      | (with_reducible exact impl_Parts.mono _ _)
      | (with_reducible exact laws_expr.mono _ _ _)
      | (with_reducible exact laws_zzFits1.mono _ _ _)
      | (with_reducible exact spec_ExprGood.mono _ _ _)
      | (with_reducible exact spec_FieldText.mono _ _)
      | (with_reducible exact spec_Text.mono _ _ _)
      | (with_reducible exact LeO.refl _)
      | (with_reducible exact LeO.none _)
      | (with_reducible refine LeO.ite ?_ ?_)
      | (with_reducible refine LeO.bind ?_ (fun _ => ?_))
      | exact ih0 _ _ _ _
      | exact ih1 _ _ _ _
      | exact impl_Parts.mono _ _
      | exact laws_expr.mono _ _ _
      | exact laws_zzFits1.mono _ _ _
      | exact spec_ExprGood.mono _ _ _
      | exact spec_FieldText.mono _ _
      | exact spec_Text.mono _ _ _
      | exact LeO.none _
      | refine LeO.ite ?_ ?_
      | refine LeO.bind ?_ (fun _ => ?_)
    · intro y0 y1 y2 y3
      unfold laws_FnSegments.l0
      repeat' first
      | (with_reducible exact ih0 _ _ _ _)
      | (with_reducible exact ih1 _ _ _ _)
      | (with_reducible exact impl_Parts.mono _ _)
      | (with_reducible exact laws_expr.mono _ _ _)
      | (with_reducible exact laws_zzFits1.mono _ _ _)
      | (with_reducible exact spec_ExprGood.mono _ _ _)
      | (with_reducible exact spec_FieldText.mono _ _)
      | (with_reducible exact spec_Text.mono _ _ _)
      | (with_reducible exact LeO.refl _)
      | (with_reducible exact LeO.none _)
      | (with_reducible refine LeO.ite ?_ ?_)
      | (with_reducible refine LeO.bind ?_ (fun _ => ?_))
      | exact ih0 _ _ _ _
      | exact ih1 _ _ _ _
      | exact impl_Parts.mono _ _
      | exact laws_expr.mono _ _ _
      | exact laws_zzFits1.mono _ _ _
      | exact spec_ExprGood.mono _ _ _
      | exact spec_FieldText.mono _ _
      | exact spec_Text.mono _ _ _
      | exact LeO.none _
      | refine LeO.ite ?_ ?_
      | refine LeO.bind ?_ (fun _ => ?_)
theorem laws_FnSegments.mono : ∀ a0 a1 k, LeO (laws_FnSegments.f k a0 a1) (laws_FnSegments.f (k + 1) a0 a1) := by
  intro a0 a1 k
  obtain ⟨ih0, ih1⟩ := laws_FnSegments.mono_l k
  unfold laws_FnSegments.f
  repeat' first
      | (with_reducible exact ih0 _ _ _ _)
      | (with_reducible exact ih1 _ _ _ _)
      | (with_reducible exact impl_Parts.mono _ _)
      | (with_reducible exact laws_expr.mono _ _ _)
      | (with_reducible exact laws_zzFits1.mono _ _ _)
      | (with_reducible exact spec_ExprGood.mono _ _ _)
      | (with_reducible exact spec_FieldText.mono _ _)
      | (with_reducible exact spec_Text.mono _ _ _)
      | (with_reducible exact LeO.refl _)
      | (with_reducible exact LeO.none _)
      | (with_reducible refine LeO.ite ?_ ?_)
      | (with_reducible refine LeO.bind ?_ (fun _ => ?_))
      | exact ih0 _ _ _ _
      | exact ih1 _ _ _ _
      | exact impl_Parts.mono _ _
      | exact laws_expr.mono _ _ _
      | exact laws_zzFits1.mono _ _ _
      | exact spec_ExprGood.mono _ _ _
      | exact spec_FieldText.mono _ _
      | exact spec_Text.mono _ _ _
      | exact LeO.none _
      | refine LeO.ite ?_ ?_
      | refine LeO.bind ?_ (fun _ => ?_)
set_option maxHeartbeats 8000000 in
set_option maxRecDepth 100000 in
theorem laws_FnSegments.calls (k : Nat) (A0_0 : Option Addr) (c0_0 : Nat) (l0_0 : List (List (S40))) (a0_1 : Bool) (r : Bool) (w : World) (hr0_0 : Kd.C (Kd.slice 40 k40) w A0_0 l0_0.length l0_0) (hc0_0 : l0_0.length ≤ c0_0) (h : laws_FnSegments.f k l0_0 a0_1 = some r) :
    Calls Tryd.prog 3 #[.agg #[.slice A0_0 l0_0.length c0_0, .bool a0_1]] w fun e w' => e = .returned (.bool r) ∧ Below w.heap.size w w' := by
  have hu24 := Tryd.underlying24
  have hu28 := Tryd.underlying28
  have HR0_0 := Aside0.mk hr0_0
  have HC0_0 := Aside0.mk hc0_0
  clear hr0_0 hc0_0
  have HB := Aside0.mk (Below.refl w.heap.size w)
  have H : ((laws_zzFits1.f k l0_0 a0_1).bind fun t228 => (if t228 = true then ((laws_expr.f k l0_0 a0_1).bind fun bt229 => ((spec_ExprGood.f k bt229.1 bt229.2).bind fun t234 => (if t234 = true then ((spec_Text.f k bt229.1 bt229.2).bind fun t235 => ((impl_Parts.f k t235).bind fun bt236 => (if bt236.2 = true then (laws_FnSegments.j0 k bt236.1 ((bt236.1.length : Int) != 6) bt229.1 bt229.2) else (laws_FnSegments.j0 k bt236.1 true bt229.1 bt229.2)))) else (some true)))) else (some true))) = some r := h
  clear h
  replace H := Option.bind_eq_some_iff.mp H
  obtain ⟨t228, A20, H⟩ := H
  replace H : (if t228 = true then ((laws_expr.f k l0_0 a0_1).bind fun bt229 => ((spec_ExprGood.f k bt229.1 bt229.2).bind fun t234 => (if t234 = true then ((spec_Text.f k bt229.1 bt229.2).bind fun t235 => ((impl_Parts.f k t235).bind fun bt236 => (if bt236.2 = true then (laws_FnSegments.j0 k bt236.1 ((bt236.1.length : Int) != 6) bt229.1 bt229.2) else (laws_FnSegments.j0 k bt236.1 true bt229.1 bt229.2)))) else (some true)))) else (some true)) = some r := H
  have A2 := Aside0.mk A20
  clear A20
  by_cases c3 : t228 = true
  · subst c3
    have H1 : ((laws_expr.f k l0_0 a0_1).bind fun bt229 => ((spec_ExprGood.f k bt229.1 bt229.2).bind fun t234 => (if t234 = true then ((spec_Text.f k bt229.1 bt229.2).bind fun t235 => ((impl_Parts.f k t235).bind fun bt236 => (if bt236.2 = true then (laws_FnSegments.j0 k bt236.1 ((bt236.1.length : Int) != 6) bt229.1 bt229.2) else (laws_FnSegments.j0 k bt236.1 true bt229.1 bt229.2)))) else (some true)))) = some r := by rw [if_pos rfl] at H; exact H
    clear H
    have H := H1
    clear H1
    replace H := Option.bind_eq_some_iff.mp H
    obtain ⟨⟨t229, t232⟩, A40, H⟩ := H
    replace H : ((spec_ExprGood.f k t229 t232).bind fun t234 => (if t234 = true then ((spec_Text.f k t229 t232).bind fun t235 => ((impl_Parts.f k t235).bind fun bt236 => (if bt236.2 = true then (laws_FnSegments.j0 k bt236.1 ((bt236.1.length : Int) != 6) t229 t232) else (laws_FnSegments.j0 k bt236.1 true t229 t232)))) else (some true))) = some r := H
    have A4 := Aside0.mk A40
    clear A40
    replace H := Option.bind_eq_some_iff.mp H
    obtain ⟨t234, A50, H⟩ := H
    replace H : (if t234 = true then ((spec_Text.f k t229 t232).bind fun t235 => ((impl_Parts.f k t235).bind fun bt236 => (if bt236.2 = true then (laws_FnSegments.j0 k bt236.1 ((bt236.1.length : Int) != 6) t229 t232) else (laws_FnSegments.j0 k bt236.1 true t229 t232)))) else (some true)) = some r := H
    have A5 := Aside0.mk A50
    clear A50
    by_cases c6 : t234 = true
    · subst c6
      have H1 : ((spec_Text.f k t229 t232).bind fun t235 => ((impl_Parts.f k t235).bind fun bt236 => (if bt236.2 = true then (laws_FnSegments.j0 k bt236.1 ((bt236.1.length : Int) != 6) t229 t232) else (laws_FnSegments.j0 k bt236.1 true t229 t232)))) = some r := by rw [if_pos rfl] at H; exact H
      clear H
      have H := H1
      clear H1
      replace H := Option.bind_eq_some_iff.mp H
      obtain ⟨t235, A70, H⟩ := H
      replace H : ((impl_Parts.f k t235).bind fun bt236 => (if bt236.2 = true then (laws_FnSegments.j0 k bt236.1 ((bt236.1.length : Int) != 6) t229 t232) else (laws_FnSegments.j0 k bt236.1 true t229 t232))) = some r := H
      have A7 := Aside0.mk A70
      clear A70
      replace H := Option.bind_eq_some_iff.mp H
      obtain ⟨⟨t236, t237⟩, A80, H⟩ := H
      replace H : (if t237 = true then (laws_FnSegments.j0 k t236 ((t236.length : Int) != 6) t229 t232) else (laws_FnSegments.j0 k t236 true t229 t232)) = some r := H
      have A8 := Aside0.mk A80
      clear A80
      have HC9 := Aside0.mk H
      clear H
      go_enter Tryd.func3, Tryd.ntmps3
      go_upto_region 7 with (first | ((with_reducible refine gate_dst (N := 1) rfl ?_); (try (refine gate_guard (by rfl) ?_; dsimp only)); refine box_event ?hg (N := 1) ?hd (cs := #[.slice A0_0 l0_0.length c0_0, .bool a0_1]) (t := 24) ?hr ?_; (case hd => rfl); (case hg => rfl); (case hr => first | (go_simp; done) | (go_simp; rfl)); intro gb227 hg w10 hbox hb; have n0_ := Aside0.mk (below_step (by repeat (first | (with_reducible first | exact HB.out | apply below_alloc | apply pw_below_drewN | apply below_drew1) | exact HB.out)) hb); have n1_ := Aside0.mk (hbox); have n2_ := Aside0.mk ((by rw [hg]; exact (below_size (by repeat (first | (with_reducible first | exact HB.out | apply below_alloc | apply pw_below_drewN | apply below_drew1) | exact HB.out))) : w.heap.size ≤ gb227)); have n3_ := Aside0.mk ((by rw [hg]; exact (below_size (by repeat (first | (with_reducible first | exact HB.out | apply below_alloc | apply pw_below_drewN | apply below_drew1) | exact HB.out))) : w.heap.size ≤ gb227)); clear HB; have HB := n0_; have BK227 := n1_; have GW227 := n2_; have GE227 := n3_; clear n0_ n1_ n2_ n3_; clear hb hbox hg; have hcz11_0 : w10.cell? ⟨gb227, 0, none⟩ = some (.slice A0_0 l0_0.length c0_0) := (blk_cell BK227.out 0).trans rfl; have hcz11_1 : w10.cell? ⟨gb227, 1, none⟩ = some (.bool a0_1) := (blk_cell BK227.out 1).trans rfl; have hfz11_0 := blk_frozen BK227.out 0; have hfz11_1 := blk_frozen BK227.out 1) | ((with_reducible refine gate_callee (f := 4) rfl ?_); refine goesL_ (some 9) rfl rfl Tryd.func4 (by kernel_rfl) rfl #[.agg #[.slice A0_0 l0_0.length c0_0, .bool a0_1]] rfl (by (try simp only [List.map_toArray, List.map_cons, List.map_nil]); first | done | rfl | (simp only [List.length_drop, List.length_take]; rfl)) ?_; (with_reducible refine (laws_zzFits1.calls k _ _ l0_0 a0_1 true _ ?side1 ?side2 A2.out).mono ?_); (case side1 => repeat (first | exact (Kd.C_below HR0_0.out HB.out) | (with_reducible refine Kd.C_alloc ?_ _) | (with_reducible refine Kd.C_drewN ?_ _) | (with_reducible refine Kd.C_drew ?_))); (case side2 => exact HC0_0.out); rintro e w12 ⟨rfl, hb⟩; refine ⟨_, rfl, ?_⟩; have n0_ := Aside0.mk (blk_below (g := gb227) (o := .cells #[.slice A0_0 l0_0.length c0_0, .bool a0_1] 24 (0, 0)) (by (with_reducible repeat (first | refine blk_drewN ?_ _ | refine blk_drew ?_ | refine blk_alloc ?_ _)); exact BK227.out) hb); have n1_ := Aside0.mk (below_step (by repeat (first | (with_reducible first | exact HB.out | apply below_alloc | apply pw_below_drewN | apply below_drew1 | refine below_set ?_ GE227.out) | exact HB.out)) hb); clear BK227; clear HB; have BK227 := n0_; have HB := n1_; clear n0_ n1_; (try clear hb); (try clear hb2); (try clear hk); (try clear hi); have hcz13_0 : w12.cell? ⟨gb227, 0, none⟩ = some (.slice A0_0 l0_0.length c0_0) := (blk_cell BK227.out 0).trans rfl; have hcz13_1 : w12.cell? ⟨gb227, 1, none⟩ = some (.bool a0_1) := (blk_cell BK227.out 1).trans rfl; have hfz13_0 := blk_frozen BK227.out 0; have hfz13_1 := blk_frozen BK227.out 1) | ((with_reducible refine gate_callee (f := 5) rfl ?_); refine goesL_ (some 12) rfl rfl Tryd.func5 (by kernel_rfl) rfl #[.agg #[.slice A0_0 l0_0.length c0_0, .bool a0_1]] rfl (by (try simp only [List.map_toArray, List.map_cons, List.map_nil]); first | done | rfl | (simp only [List.length_drop, List.length_take]; rfl)) ?_; (with_reducible refine (laws_expr.calls k _ _ l0_0 a0_1 t229 t232 _ ?side1 ?side2 A4.out).mono ?_); (case side1 => repeat (first | exact (Kd.C_below HR0_0.out HB.out) | (with_reducible refine Kd.C_alloc ?_ _) | (with_reducible refine Kd.C_drewN ?_ _) | (with_reducible refine Kd.C_drew ?_))); (case side2 => exact HC0_0.out); rintro e w14 ⟨v230, rfl, ho0, hb⟩; refine ⟨_, rfl, ?_⟩; have n0_ := Aside0.mk (Kd.S_lower ho0 (below_size (by repeat (first | (with_reducible first | exact HB.out | apply below_alloc | apply pw_below_drewN | apply below_drew1 | refine below_set ?_ GE227.out) | exact HB.out)))); have n1_ := Aside0.mk (blk_below (g := gb227) (o := .cells #[.slice A0_0 l0_0.length c0_0, .bool a0_1] 24 (0, 0)) (by (with_reducible repeat (first | refine blk_drewN ?_ _ | refine blk_drew ?_ | refine blk_alloc ?_ _)); exact BK227.out) hb); have n2_ := Aside0.mk (below_step (by repeat (first | (with_reducible first | exact HB.out | apply below_alloc | apply pw_below_drewN | apply below_drew1 | refine below_set ?_ GE227.out) | exact HB.out)) hb); clear BK227; clear HB; have HO231 := n0_; have BK227 := n1_; have HB := n2_; clear n0_ n1_ n2_; (try clear hb); (try clear hb2); (try clear hk); (try clear hi); (try clear ho0)) | ((with_reducible refine gate_dst (N := 3) rfl ?_); (try (refine gate_guard (by rfl) ?_; dsimp only)); refine box_event ?hg (N := 3) ?hd (cs := #[.slice none 0 0, .bool false]) (t := 28) ?hr ?_; (case hd => rfl); (case hg => rfl); (case hr => first | (go_simp; done) | (go_simp; rfl)); intro gb233 hg w15 hbox hb; have n0_ := Aside0.mk (Kd.S_below (by (with_reducible repeat (first | apply Kd.S_alloc | apply Kd.S_drewN | apply Kd.S_drew)); exact HO231.out) hb); have n1_ := Aside0.mk (blk_below (g := gb227) (o := .cells #[.slice A0_0 l0_0.length c0_0, .bool a0_1] 24 (0, 0)) (by (with_reducible repeat (first | refine blk_drewN ?_ _ | refine blk_drew ?_ | refine blk_alloc ?_ _)); exact BK227.out) hb); have n2_ := Aside0.mk (below_step (by repeat (first | (with_reducible first | exact HB.out | apply below_alloc | apply pw_below_drewN | apply below_drew1 | refine below_set ?_ GE227.out) | exact HB.out)) hb); have n3_ := Aside0.mk (hbox); have n4_ := Aside0.mk ((by rw [hg]; exact (below_size (by repeat (first | (with_reducible first | exact HB.out | apply below_alloc | apply pw_below_drewN | apply below_drew1 | refine below_set ?_ GE227.out) | exact HB.out))) : w.heap.size ≤ gb233)); have n5_ := Aside0.mk ((by rw [hg]; exact (below_size (by repeat (first | (with_reducible first | exact HB.out | apply below_alloc | apply pw_below_drewN | apply below_drew1 | refine below_set ?_ GE227.out) | exact HB.out))) : w.heap.size ≤ gb233)); have n6_ := Aside0.mk ((by rw [hg]; exact Nat.ne_of_lt (blk_lt (g := gb227) (o := .cells #[.slice A0_0 l0_0.length c0_0, .bool a0_1] 24 (0, 0)) (by (with_reducible repeat (first | refine blk_drewN ?_ _ | refine blk_drew ?_ | refine blk_alloc ?_ _)); exact BK227.out)) : gb227 ≠ gb233)); have n7_ := Aside0.mk ((by rw [hg]; exact Nat.ne_of_gt (blk_lt (g := gb227) (o := .cells #[.slice A0_0 l0_0.length c0_0, .bool a0_1] 24 (0, 0)) (by (with_reducible repeat (first | refine blk_drewN ?_ _ | refine blk_drew ?_ | refine blk_alloc ?_ _)); exact BK227.out)) : gb233 ≠ gb227)); clear HO231; clear BK227; clear HB; have HO231 := n0_; have BK227 := n1_; have HB := n2_; have BK233 := n3_; have GW233 := n4_; have GE233 := n5_; have NB227_233 := n6_; have NB233_227 := n7_; clear n0_ n1_ n2_ n3_ n4_ n5_ n6_ n7_; clear hb hbox hg; obtain ⟨Ao16, co16, eo16⟩ := Kd.S_slice HO231.out; subst eo16; have hnb17 := NB233_227.out; have hnc17 := NB227_233.out; have hcz18_0 : w15.cell? ⟨gb233, 0, none⟩ = some (.slice none 0 0) := (blk_cell BK233.out 0).trans rfl; have hcz18_1 : w15.cell? ⟨gb233, 1, none⟩ = some (.bool false) := (blk_cell BK233.out 1).trans rfl; have hfz18_0 := blk_frozen BK233.out 0; have hfz18_1 := blk_frozen BK233.out 1) | ((with_reducible refine gate_callee (f := 6) rfl ?_); refine goesL_ (some 14) rfl rfl Tryd.func6 (by kernel_rfl) rfl #[.agg #[.slice Ao16 t229.length co16, .bool t232]] rfl (by (try simp only [List.map_toArray, List.map_cons, List.map_nil]); first | done | rfl | (simp only [List.length_drop, List.length_take]; rfl)) ?_; (with_reducible refine (spec_ExprGood.calls k _ _ t229 t232 true _ ?side1 ?side2 A5.out).mono ?_); (case side1 => refine (Kd.S_reads' (e := 35) (base := w.heap.size) (ok := fun k_ => True) (n := t229.length) (c := co16) ?_).2.2; exact (by (with_reducible repeat (first | apply Kd.S_alloc | apply Kd.S_drewN | apply Kd.S_drew)); exact (Kd.S_mono (Kd.S_far (p := ⟨gb233, 1, none⟩) (Kd.S_far (p := ⟨gb233, 0, none⟩) (Kd.S_types HO231.out BK233.out (by decide)) (fun _ hk => hk.2) (.slice Ao16 t229.length co16)) (fun _ hk => hk.2) (.bool t232)) (fun _ h_ => h_.1)))); (case side2 => exact (Kd.S_reads' HO231.out).2.1); rintro e w19 ⟨rfl, hb⟩; refine ⟨_, rfl, ?_⟩; have n0_ := Aside0.mk (Kd.S_below (by (with_reducible repeat (first | apply Kd.S_alloc | apply Kd.S_drewN | apply Kd.S_drew)); exact (Kd.S_mono (Kd.S_far (p := ⟨gb233, 1, none⟩) (Kd.S_far (p := ⟨gb233, 0, none⟩) (Kd.S_types HO231.out BK233.out (by decide)) (fun _ hk => hk.2) (.slice Ao16 t229.length co16)) (fun _ hk => hk.2) (.bool t232)) (fun _ h_ => h_.1))) hb); have n1_ := Aside0.mk (blk_below (g := gb227) (o := .cells #[.slice A0_0 l0_0.length c0_0, .bool a0_1] 24 (0, 0)) (by (with_reducible repeat (first | refine blk_drewN ?_ _ | refine blk_drew ?_ | refine blk_alloc ?_ _)); refine blk_far ?_ NB227_233.out _; (with_reducible repeat (first | refine blk_drewN ?_ _ | refine blk_drew ?_ | refine blk_alloc ?_ _)); refine blk_far ?_ NB227_233.out _; (with_reducible repeat (first | refine blk_drewN ?_ _ | refine blk_drew ?_ | refine blk_alloc ?_ _)); exact BK227.out) hb); have n2_ := Aside0.mk (blk_below (g := gb233) (o := .cells #[.slice Ao16 t229.length co16, .bool t232] 28 (0, 0)) (by (with_reducible repeat (first | refine blk_drewN ?_ _ | refine blk_drew ?_ | refine blk_alloc ?_ _)); refine blk_put (cs := #[.slice Ao16 t229.length co16, .bool false]) ?_ 1 _ rfl; (with_reducible repeat (first | refine blk_drewN ?_ _ | refine blk_drew ?_ | refine blk_alloc ?_ _)); refine blk_put (cs := #[.slice none 0 0, .bool false]) ?_ 0 _ rfl; (with_reducible repeat (first | refine blk_drewN ?_ _ | refine blk_drew ?_ | refine blk_alloc ?_ _)); exact BK233.out) hb); have n3_ := Aside0.mk (below_step (by repeat (first | (with_reducible first | exact HB.out | apply below_alloc | apply pw_below_drewN | apply below_drew1 | refine below_set ?_ GE227.out | refine below_set ?_ GE233.out) | exact HB.out)) hb); clear HO231; clear BK227; clear BK233; clear HB; have HO231 := n0_; have BK227 := n1_; have BK233 := n2_; have HB := n3_; clear n0_ n1_ n2_ n3_; (try clear hb); (try clear hb2); (try clear hk); (try clear hi); have hcz20_0 : w19.cell? ⟨gb233, 0, none⟩ = some (.slice Ao16 t229.length co16) := (blk_cell BK233.out 0).trans rfl; have hcz20_1 : w19.cell? ⟨gb233, 1, none⟩ = some (.bool t232) := (blk_cell BK233.out 1).trans rfl; have hfz20_0 := blk_frozen BK233.out 0; have hfz20_1 := blk_frozen BK233.out 1) | ((with_reducible refine gate_callee (f := 8) rfl ?_); refine goesL_ (some 18) rfl rfl Tryd.func8 (by kernel_rfl) rfl #[.agg #[.slice Ao16 t229.length co16, .bool t232]] rfl (by (try simp only [List.map_toArray, List.map_cons, List.map_nil]); first | done | rfl | (simp only [List.length_drop, List.length_take]; rfl)) ?_; (with_reducible refine (spec_Text.calls k _ _ t229 t232 t235 _ ?side1 ?side2 A7.out).mono ?_); (case side1 => repeat (first | exact (Kd.S_reads' HO231.out).2.2 | (with_reducible refine Kd.C_alloc ?_ _) | (with_reducible refine Kd.C_drewN ?_ _) | (with_reducible refine Kd.C_drew ?_))); (case side2 => exact (Kd.S_reads' HO231.out).2.1); rintro e w21 ⟨rfl, hb⟩; refine ⟨_, rfl, ?_⟩; have n0_ := Aside0.mk (Kd.S_below (by (with_reducible repeat (first | apply Kd.S_alloc | apply Kd.S_drewN | apply Kd.S_drew)); exact HO231.out) hb); have n1_ := Aside0.mk (blk_below (g := gb227) (o := .cells #[.slice A0_0 l0_0.length c0_0, .bool a0_1] 24 (0, 0)) (by (with_reducible repeat (first | refine blk_drewN ?_ _ | refine blk_drew ?_ | refine blk_alloc ?_ _)); exact BK227.out) hb); have n2_ := Aside0.mk (blk_below (g := gb233) (o := .cells #[.slice Ao16 t229.length co16, .bool t232] 28 (0, 0)) (by (with_reducible repeat (first | refine blk_drewN ?_ _ | refine blk_drew ?_ | refine blk_alloc ?_ _)); exact BK233.out) hb); have n3_ := Aside0.mk (below_step (by repeat (first | (with_reducible first | exact HB.out | apply below_alloc | apply pw_below_drewN | apply below_drew1 | refine below_set ?_ GE227.out | refine below_set ?_ GE233.out) | exact HB.out)) hb); clear HO231; clear BK227; clear BK233; clear HB; have HO231 := n0_; have BK227 := n1_; have BK233 := n2_; have HB := n3_; clear n0_ n1_ n2_ n3_; (try clear hb); (try clear hb2); (try clear hk); (try clear hi)) | ((with_reducible refine gate_callee (f := 7) rfl ?_); refine goesL_ (some 19) rfl rfl Tryd.func7 (by kernel_rfl) rfl #[.string t235] rfl (by (try simp only [List.map_toArray, List.map_cons, List.map_nil]); first | done | rfl | (simp only [List.length_drop, List.length_take]; rfl)) ?_; (with_reducible refine (impl_Parts.calls k t235 t236 t237 _ A8.out).mono ?_); rintro e w22 ⟨v238, rfl, ho0, hb⟩; refine ⟨_, rfl, ?_⟩; have n0_ := Aside0.mk (Kd.S_below (by (with_reducible repeat (first | apply Kd.S_alloc | apply Kd.S_drewN | apply Kd.S_drew)); exact HO231.out) hb); have n1_ := Aside0.mk (Kd.R_lower ho0 (below_size (by repeat (first | (with_reducible first | exact HB.out | apply below_alloc | apply pw_below_drewN | apply below_drew1 | refine below_set ?_ GE227.out | refine below_set ?_ GE233.out) | exact HB.out)))); have n2_ := Aside0.mk (blk_below (g := gb227) (o := .cells #[.slice A0_0 l0_0.length c0_0, .bool a0_1] 24 (0, 0)) (by (with_reducible repeat (first | refine blk_drewN ?_ _ | refine blk_drew ?_ | refine blk_alloc ?_ _)); exact BK227.out) hb); have n3_ := Aside0.mk (blk_below (g := gb233) (o := .cells #[.slice Ao16 t229.length co16, .bool t232] 28 (0, 0)) (by (with_reducible repeat (first | refine blk_drewN ?_ _ | refine blk_drew ?_ | refine blk_alloc ?_ _)); exact BK233.out) hb); have n4_ := Aside0.mk (below_step (by repeat (first | (with_reducible first | exact HB.out | apply below_alloc | apply pw_below_drewN | apply below_drew1 | refine below_set ?_ GE227.out | refine below_set ?_ GE233.out) | exact HB.out)) hb); clear HO231; clear BK227; clear BK233; clear HB; have HO231 := n0_; have HO239 := n1_; have BK227 := n2_; have BK233 := n3_; have HB := n4_; clear n0_ n1_ n2_ n3_ n4_; (try clear hb); (try clear hb2); (try clear hk); (try clear hi); (try clear ho0)))
      (try simp only [Act.put, List.setIfInBounds_toArray, List.set_cons_zero, List.set_cons_succ])
      go_cut [28] (fun v28 wc => ∃ (kq : Nat) (x28_8 : Bool), v28 = .bool x28_8 ∧ Aside0 (laws_FnSegments.j0 kq t236 x28_8 t229 t232 = some r) ∧ Aside0 (kq ≤ k) ∧ Aside0 (Kd.R Kd.string 9 wc w.heap.size (fun _ => True) v238 t236) ∧ Aside0 (Kd.S (Kd.slice 41 k41) 35 wc w.heap.size (fun _ => True) (.slice Ao16 t229.length co16) t229) ∧ Aside0 (wc.heap[gb227]? = some (.cells #[(.slice A0_0 l0_0.length c0_0), .bool a0_1] 24 (0, 0))) ∧ Aside0 (wc.heap[gb233]? = some (.cells #[(.slice Ao16 t229.length co16), .bool t232] 28 (0, 0))) ∧ Aside0 (Below w.heap.size w wc))
      case first =>
        have H := HC9.out
        clear HC9
        by_cases c23 : t237 = true
        · subst c23
          have H1 : (laws_FnSegments.j0 k t236 ((t236.length : Int) != 6) t229 t232) = some r := by rw [if_pos rfl] at H; exact H
          clear H
          have H := H1
          clear H1
          have H' := Aside0.mk H
          clear H
          obtain ⟨Ao24, co24, eo24⟩ := Kd.R_slice HO239.out
          subst eo24
          go_wp2
          go_meet
          case rel => exact ⟨_, (((t236.length : Int) != 6)), (by first | rfl | (simp; done) | (simp [*]; done)), H', ⟨by first | omega | exact Nat.le_refl _⟩, ⟨by (with_reducible repeat (first | apply Kd.R_alloc | apply Kd.R_drewN | apply Kd.R_drew)); exact HO239.out⟩, ⟨by (with_reducible repeat (first | apply Kd.S_alloc | apply Kd.S_drewN | apply Kd.S_drew)); exact HO231.out⟩, ⟨by (with_reducible repeat (first | refine blk_drewN ?_ _ | refine blk_drew ?_ | refine blk_alloc ?_ _)); exact BK227.out⟩, ⟨by (with_reducible repeat (first | refine blk_drewN ?_ _ | refine blk_drew ?_ | refine blk_alloc ?_ _)); exact BK233.out⟩, ⟨by repeat (first | (with_reducible first | exact HB.out | apply below_alloc | apply pw_below_drewN | apply below_drew1 | refine below_set ?_ GE227.out | refine below_set ?_ GE233.out) | exact HB.out)⟩⟩
        · replace c23 := Bool.eq_false_iff.mpr c23
          subst c23
          have H1 : (laws_FnSegments.j0 k t236 true t229 t232) = some r := by rw [if_neg (show ¬ (false = true) by decide)] at H; exact H
          clear H
          have H := H1
          clear H1
          have H' := Aside0.mk H
          clear H
          go_wp2
          go_meet
          case rel => exact ⟨_, (true), (by first | rfl | (simp; done) | (simp [*]; done)), H', ⟨by first | omega | exact Nat.le_refl _⟩, ⟨by (with_reducible repeat (first | apply Kd.R_alloc | apply Kd.R_drewN | apply Kd.R_drew)); exact HO239.out⟩, ⟨by (with_reducible repeat (first | apply Kd.S_alloc | apply Kd.S_drewN | apply Kd.S_drew)); exact HO231.out⟩, ⟨by (with_reducible repeat (first | refine blk_drewN ?_ _ | refine blk_drew ?_ | refine blk_alloc ?_ _)); exact BK227.out⟩, ⟨by (with_reducible repeat (first | refine blk_drewN ?_ _ | refine blk_drew ?_ | refine blk_alloc ?_ _)); exact BK233.out⟩, ⟨by repeat (first | (with_reducible first | exact HB.out | apply below_alloc | apply pw_below_drewN | apply below_drew1 | refine below_set ?_ GE227.out | refine below_set ?_ GE233.out) | exact HB.out)⟩⟩
      case rest =>
        clear HC9
        try clear c1
        try clear c2
        try clear p2
        try clear c3
        try clear c4
        try clear c5
        try clear c6
        try clear c7
        try clear c8
        try clear c17
        try clear c23
        try clear hcz11_0
        try clear hcz11_1
        try clear hcz13_0
        try clear hcz13_1
        try clear hcz18_0
        try clear hcz18_1
        try clear hcz20_0
        try clear hcz20_1
        try clear hfz11_0
        try clear hfz11_1
        try clear hfz13_0
        try clear hfz13_1
        try clear hfz18_0
        try clear hfz18_1
        try clear hfz20_0
        try clear hfz20_1
        obtain ⟨kq, x28_8, rfl, HA, HJ8, HO_4, HO_234000, BK227, BK233, HB⟩ := hcut
        cases kq with
        | zero => exact absurd HA.out (by simp [laws_FnSegments.j0])
        | succ kj8 =>
          have H := HA.out
          clear HA
          simp only [laws_FnSegments.j0] at H
          by_cases c25 : x28_8 = true
          · subst c25
            have H1 : (some false) = some r := by rw [if_pos rfl] at H; exact H
            clear H
            have H := H1
            clear H1
            obtain rfl := Option.some.inj H
            go_wp2
            go_ret
            exact ⟨by first | rfl | (simp [errW_none, errW_some] <;> rfl) | (simp [*, errW_none, errW_some] <;> rfl), by repeat (first | (with_reducible first | exact HB.out | apply below_alloc | apply pw_below_drewN | apply below_drew1 | refine below_set ?_ GE227.out | refine below_set ?_ GE233.out) | exact HB.out)⟩
          · replace c25 := Bool.eq_false_iff.mpr c25
            subst c25
            have H1 : (laws_FnSegments.l0 kj8 t236 t229 (t229.length : Int) 0) = some r := by rw [if_neg (show ¬ (false = true) by decide)] at H; exact H
            clear H
            have H := H1
            clear H1
            have H' := Aside0.mk H
            clear H
            have hnb26 := NB233_227.out
            have hnc26 := NB227_233.out
            have hcz27_0 : wc.cell? ⟨gb233, 0, none⟩ = some (.slice Ao16 t229.length co16) := (blk_cell BK233.out 0).trans rfl
            have hcz27_1 : wc.cell? ⟨gb233, 1, none⟩ = some (.bool t232) := (blk_cell BK233.out 1).trans rfl
            have hfz27_0 := blk_frozen BK233.out 0
            have hfz27_1 := blk_frozen BK233.out 1
            go_wp2
            go_loopg [32] kj8 (fun kq v32 w' => ∃ (x32_2 : Int), v32 = .int .i64 x32_2 ∧ Aside0 (laws_FnSegments.l0 kq t236 t229 (t229.length : Int) x32_2 = some r) ∧ Aside0 (kq ≤ kj8) ∧ Aside0 (Kd.R Kd.string 9 w' w.heap.size (fun _ => True) v238 t236) ∧ Aside0 (Kd.S (Kd.slice 41 k41) 35 w' w.heap.size (fun _ => True) (.slice Ao16 t229.length co16) t229) ∧ Aside0 (Kd.S (Kd.slice 41 k41) 35 w' w.heap.size (fun _ => True) (.slice Ao16 t229.length co16) t229) ∧ Aside0 (w'.heap[gb227]? = some (.cells #[(.slice A0_0 l0_0.length c0_0), .bool a0_1] 24 (0, 0))) ∧ Aside0 (w'.heap[gb233]? = some (.cells #[(.slice Ao16 t229.length co16), .bool t232] 28 (0, 0))) ∧ Aside0 (Below w.heap.size w w'))
            case atStart => exact ⟨(0), (by first | rfl | (simp; done) | (simp [*]; done)), H', ⟨Nat.le_refl _⟩, ⟨by (with_reducible repeat (first | apply Kd.R_alloc | apply Kd.R_drewN | apply Kd.R_drew)); exact HO_4.out⟩, ⟨by (with_reducible repeat (first | apply Kd.S_alloc | apply Kd.S_drewN | apply Kd.S_drew)); exact HO_234000.out⟩, ⟨by (with_reducible repeat (first | apply Kd.S_alloc | apply Kd.S_drewN | apply Kd.S_drew)); exact HO_234000.out⟩, ⟨by (with_reducible repeat (first | refine blk_drewN ?_ _ | refine blk_drew ?_ | refine blk_alloc ?_ _)); exact BK227.out⟩, ⟨by (with_reducible repeat (first | refine blk_drewN ?_ _ | refine blk_drew ?_ | refine blk_alloc ?_ _)); exact BK233.out⟩, ⟨by repeat (first | (with_reducible first | exact HB.out | apply below_alloc | apply pw_below_drewN | apply below_drew1 | refine below_set ?_ GE227.out | refine below_set ?_ GE233.out) | exact HB.out)⟩⟩
            case round =>
              clear H'
              try clear c1
              try clear c2
              try clear p2
              try clear c3
              try clear c4
              try clear c5
              try clear c6
              try clear c7
              try clear c8
              try clear c17
              try clear c23
              try clear c25
              try clear c26
              try clear hcz11_0
              try clear hcz11_1
              try clear hcz13_0
              try clear hcz13_1
              try clear hcz18_0
              try clear hcz18_1
              try clear hcz20_0
              try clear hcz20_1
              try clear hcz27_0
              try clear hcz27_1
              try clear hfz11_0
              try clear hfz11_1
              try clear hfz13_0
              try clear hfz13_1
              try clear hfz18_0
              try clear hfz18_1
              try clear hfz20_0
              try clear hfz20_1
              try clear hfz27_0
              try clear hfz27_1
              try clear p2
              obtain ⟨x32_2, rfl, HA, HK2, HO_4, HO_30, HO_234000, BK227, BK233, HB⟩ := hrel
              cases gk with
              | zero => exact absurd HA.out (by simp [laws_FnSegments.l0])
              | succ k2 =>
                have H := HA.out
                clear HA
                simp only [laws_FnSegments.l0] at H
                by_cases c28 : x32_2 < (t229.length : Int)
                · rw [if_pos c28] at H
                  have c28b0 : decide (x32_2 < (t229.length : Int)) = true := decide_eq_true c28
                  clear c28
                  by_cases c29 : 0 ≤ x32_2
                  · rw [if_pos c29] at H
                    have c29b0 : decide (0 ≤ x32_2) = true := decide_eq_true c29
                    clear c29
                    by_cases c30 : x32_2 < (t229.length : Int)
                    · rw [if_pos c30] at H
                      have c30b0 : decide (x32_2 < (t229.length : Int)) = true := decide_eq_true c30
                      clear c30
                      by_cases c31 : x32_2 < (t236.length : Int)
                      · rw [if_pos c31] at H
                        have c31b0 : decide (x32_2 < (t236.length : Int)) = true := decide_eq_true c31
                        clear c31
                        replace H := Option.bind_eq_some_iff.mp H
                        obtain ⟨t242, A320, H⟩ := H
                        replace H : (if (rdOf ByteArray.empty t236 x32_2).toList = t242.toList then (laws_FnSegments.l0 k2 t236 t229 (t229.length : Int) (wrap64 (x32_2 + 1))) else (some false)) = some r := H
                        have A32 := Aside0.mk A320
                        clear A320
                        by_cases c33 : (rdOf ByteArray.empty t236 x32_2).toList = t242.toList
                        · rw [if_pos c33] at H
                          have c33b0 : ((rdOf ByteArray.empty t236 x32_2).toList == t242.toList) = true := beq_iff_eq.mpr c33
                          have c33b1 : ((rdOf ByteArray.empty t236 x32_2).toList != t242.toList) = false := bne_eq_false_iff_eq.mpr c33
                          clear c33
                          have H' := Aside0.mk H
                          clear H
                          have p240 : 0 ≤ (x32_2 : Int) := of_decide_eq_true (by first | (with_reducible assumption) | assumption)
                          have q240 : x32_2 < (t229.length : Int) := of_decide_eq_true (by first | (with_reducible assumption) | assumption)
                          obtain ⟨ad240, A240_0, c240_0, e240, hx240_0, hl240_0, hi240_0⟩ := at_L5 (Kd.S_reads' HO_30.out).2.2 x32_2 p240 q240
                          cases e240
                          obtain ⟨ce240, hce240, hMe240, hcc240⟩ := Kd.S_get HO_30.out [] x32_2 p240 (by first | exact q240 | exact of_decide_eq_true (by first | (with_reducible assumption) | assumption) | (have e_ := (Kd.S_reads' HO_30.out).1; omega))
                          obtain ⟨ve240_0, rfl, ge240_0⟩ := hMe240
                          have hv240_0 := hcc240 0 _ rfl
                          rw [Nat.add_zero, show ((Kd.slice 41 k41)).sz = 1 from rfl, Nat.mul_one] at hv240_0
                          replace hv240_0 := Option.some.inj (hv240_0.symm.trans hx240_0)
                          rw [hv240_0] at ge240_0
                          have HL240_0 := Aside0.mk (show Kd.R k41 41 _ _ _ _ (rd_L5 t229 x32_2) from ge240_0)
                          clear hv240_0 ge240_0
                          clear hcc240 hce240
                          have HR240_0 := Aside0.mk hi240_0
                          have HC240_0 := Aside0.mk hl240_0
                          clear hi240_0 hl240_0
                          replace p240 := eq_true p240
                          replace q240 := eq_true q240
                          try go_wp2
                          have n0_ := Aside0.mk (Kd.R_drew HO_4.out)
                          have n1_ := Aside0.mk (Kd.S_drew HO_30.out)
                          have n2_ := Aside0.mk (Kd.S_drew HO_234000.out)
                          have n3_ := Aside0.mk (Kd.R_drew HL240_0.out)
                          have n4_ := Aside0.mk (blk_drew BK227.out)
                          have n5_ := Aside0.mk (blk_drew BK233.out)
                          have n6_ := Aside0.mk (Kd.C_drew HR240_0.out)
                          have n7_ := Aside0.mk (below_drew1 HB.out)
                          clear HO_4
                          clear HO_30
                          clear HO_234000
                          clear HL240_0
                          clear BK227
                          clear BK233
                          clear HR240_0
                          clear HB
                          have HO_4 := n0_
                          have HO_30 := n1_
                          have HO_234000 := n2_
                          have HL240_0 := n3_
                          have BK227 := n4_
                          have BK233 := n5_
                          have HR240_0 := n6_
                          have HB := n7_
                          clear n0_ n1_ n2_ n3_ n4_ n5_ n6_ n7_
                          obtain ⟨Ao35, co35, eo35⟩ := Kd.R_slice HO_4.out
                          (first | subst eo35 | (injection eo35 with f1_ f2_ f3_; have f4_ := f1_.symm; have f5_ := f3_.symm; clear f1_ f2_ f3_; subst f4_; subst f5_))
                          have p241 : 0 ≤ (x32_2 : Int) := of_decide_eq_true (by first | (with_reducible assumption) | assumption)
                          have q241 : x32_2 < (t236.length : Int) := of_decide_eq_true (by first | (with_reducible assumption) | assumption)
                          obtain ⟨ad241, e241, hx241_0⟩ := Kd.at_string (Kd.R_reads' HO_4.out).2.2 x32_2 p241 q241
                          cases e241
                          replace p241 := eq_true p241
                          replace q241 := eq_true q241
                          refine start_ (n := 7) (S := fun w' => w'.cell? (ad241.add (x32_2).toNat) = some (.string (rdOf ByteArray.empty t236 x32_2))) (ds := []) #[false, false, false, false, false, false, false] (by kernel_rfl) rfl rfl (hx241_0) (fun hHeld => ?_)
                          generalize wr.drew = w34 at HO_4 HO_30 HO_234000 HL240_0 BK227 BK233 HR240_0 HB hx241_0 hHeld ⊢
                          refine pure_ (i := 0) (N := some 37) (v := ?_) (a' := ?_) #[true, false, false, false, false, false, false] rfl rfl (by kernel_rfl) (fun _ _ _ h => h) (Or.inl ⟨by rfl, ?_⟩) ?_ ?_
                          rotate_left
                          · intro w'
                            go_simp
                            with_reducible rfl
                          rotate_left
                          · simp only [Act.put, List.setIfInBounds_toArray, List.set_cons_zero, List.set_cons_succ, i64_w, i32_w]
                            rfl
                          refine pure_ (i := 1) (N := some 38) (v := ?_) (a' := ?_) #[true, true, false, false, false, false, false] rfl rfl (by kernel_rfl) (fun _ _ _ h => h) (Or.inl ⟨by rfl, ?_⟩) ?_ ?_
                          rotate_left
                          · intro w'
                            go_simp
                            with_reducible rfl
                          rotate_left
                          · simp only [Act.put, List.setIfInBounds_toArray, List.set_cons_zero, List.set_cons_succ, i64_w, i32_w]
                            rfl
                          refine pure_ (i := 2) (N := some 39) (v := ?_) (a' := ?_) #[true, true, true, false, false, false, false] rfl rfl (by kernel_rfl) (fun _ _ _ h => h) (Or.inl ⟨by rfl, ?_⟩) ?_ ?_
                          rotate_left
                          · intro w'
                            go_simp
                            with_reducible rfl
                          rotate_left
                          · simp only [Act.put, List.setIfInBounds_toArray, List.set_cons_zero, List.set_cons_succ, i64_w, i32_w]
                            rfl
                          refine pure_ (i := 4) (N := some 41) (v := ?_) (a' := ?_) #[true, true, true, false, true, false, false] rfl rfl (by kernel_rfl) (fun _ _ _ h => h) (Or.inl ⟨by rfl, ?_⟩) ?_ ?_
                          rotate_left
                          · intro w'
                            go_simp
                            with_reducible rfl
                          rotate_left
                          · simp only [Act.put, List.setIfInBounds_toArray, List.set_cons_zero, List.set_cons_succ, i64_w, i32_w]
                            rfl
                          refine take_ (i := 3) (N := some 40) (v := ?_) (a' := ?_) #[true, true, true, true, true, false, false] rfl rfl (by kernel_rfl) (fun _ _ _ h => h) (Or.inl ⟨by rfl, ?_⟩) hHeld ?_ ?_
                          rotate_left
                          · intro w' s0
                            go_simp
                            with_reducible rfl
                          rotate_left
                          · simp only [Act.put, List.setIfInBounds_toArray, List.set_cons_zero, List.set_cons_succ, i64_w, i32_w]
                            rfl
                          refine one_ (i := 5) (N := some 42) #[true, true, true, true, true, true, false] rfl rfl (by kernel_rfl) (by decide) (fun K hK => ?_)
                          refine goes_ Tryd.func9 (by kernel_rfl) rfl #[.slice A240_0 (rd_L5 t229 x32_2).length c240_0] (by rfl) rfl rfl (by (try simp only [List.map_toArray, List.map_cons, List.map_nil]); first | done | rfl | (simp only [List.length_drop, List.length_take]; rfl)) ?_
                          with_reducible refine (spec_FieldText.calls k2 _ _ (rd_L5 t229 x32_2) t242 _ ?side1 ?side2 A32.out).mono ?_
                          (case side1 => repeat (first | exact (by repeat (first | (with_reducible exact HR240_0.out) | (with_reducible refine Kd.C_alloc ?_ _) | (with_reducible refine Kd.C_drewN ?_ _) | (with_reducible refine Kd.C_drew ?_) | exact HR240_0.out)) | (with_reducible refine Kd.C_alloc ?_ _) | (with_reducible refine Kd.C_drewN ?_ _) | (with_reducible refine Kd.C_drew ?_)))
                          (case side2 => exact HC240_0.out)
                          rintro e w36 ⟨rfl, hb⟩
                          have HS0_ := (hb.cell (World.block_lt_of_cell? _ _ (hHeld))).trans (hHeld)
                          refine ⟨_, rfl, ?_⟩
                          have n0_ := Aside0.mk (Kd.R_below (by (with_reducible repeat (first | apply Kd.R_alloc | apply Kd.R_drewN | apply Kd.R_drew)); exact HO_4.out) hb)
                          have n1_ := Aside0.mk (Kd.S_below (by (with_reducible repeat (first | apply Kd.S_alloc | apply Kd.S_drewN | apply Kd.S_drew)); exact HO_30.out) hb)
                          have n2_ := Aside0.mk (Kd.S_below (by (with_reducible repeat (first | apply Kd.S_alloc | apply Kd.S_drewN | apply Kd.S_drew)); exact HO_234000.out) hb)
                          have n3_ := Aside0.mk (Kd.R_below (by (with_reducible repeat (first | apply Kd.R_alloc | apply Kd.R_drewN | apply Kd.R_drew)); exact HL240_0.out) hb)
                          have n4_ := Aside0.mk (blk_below (g := gb227) (o := .cells #[.slice A0_0 l0_0.length c0_0, .bool a0_1] 24 (0, 0)) (by (with_reducible repeat (first | refine blk_drewN ?_ _ | refine blk_drew ?_ | refine blk_alloc ?_ _)); exact BK227.out) hb)
                          have n5_ := Aside0.mk (blk_below (g := gb233) (o := .cells #[.slice (some ad240) t229.length co16, .bool t232] 28 (0, 0)) (by (with_reducible repeat (first | refine blk_drewN ?_ _ | refine blk_drew ?_ | refine blk_alloc ?_ _)); exact BK233.out) hb)
                          have n6_ := Aside0.mk (Kd.C_below (by repeat (first | (with_reducible exact HR240_0.out) | (with_reducible refine Kd.C_alloc ?_ _) | (with_reducible refine Kd.C_drewN ?_ _) | (with_reducible refine Kd.C_drew ?_) | exact HR240_0.out)) hb)
                          have n7_ := Aside0.mk (below_step (by repeat (first | (with_reducible first | exact HB.out | apply below_alloc | apply pw_below_drewN | apply below_drew1 | refine below_set ?_ GE227.out | refine below_set ?_ GE233.out) | exact HB.out)) hb)
                          clear HO_4
                          clear HO_30
                          clear HO_234000
                          clear HL240_0
                          clear BK227
                          clear BK233
                          clear HR240_0
                          clear HB
                          have HO_4 := n0_
                          have HO_30 := n1_
                          have HO_234000 := n2_
                          have HL240_0 := n3_
                          have BK227 := n4_
                          have BK233 := n5_
                          have HR240_0 := n6_
                          have HB := n7_
                          clear n0_ n1_ n2_ n3_ n4_ n5_ n6_ n7_
                          (try clear hb)
                          (try clear hb2)
                          (try clear hk)
                          (try clear hi)
                          refine hK.out _ _ (HS0_) (fun hHeld => ?_)
                          clear hK K
                          refine norm_ (a' := ?_) ?_ ?_
                          rotate_left
                          · show Act.put _ (some 42) _ = _
                            simp only [Act.put, List.setIfInBounds_toArray, List.set_cons_zero, List.set_cons_succ, i64_w, i32_w]
                            rfl
                          refine pure_ (i := 6) (N := some 43) (v := ?_) (a' := ?_) #[true, true, true, true, true, true, true] rfl rfl (by kernel_rfl) (fun _ _ _ h => h) (Or.inl ⟨by rfl, ?_⟩) ?_ ?_
                          rotate_left
                          · intro w'
                            go_simp
                            with_reducible rfl
                          rotate_left
                          · simp only [Act.put, List.setIfInBounds_toArray, List.set_cons_zero, List.set_cons_succ, i64_w, i32_w]
                            rfl
                          refine done_ (by kernel_rfl) ?_
                          try go_wp2
                          go_roundg k2
                          case measure => have := HJ8.out; have := HK2.out; omega
                          case rel => exact ⟨(wrap64 (x32_2 + 1)), (by first | rfl | (simp; done) | (simp [*]; done)), H', ⟨by have := HJ8.out; have := HK2.out; omega⟩, ⟨by (with_reducible repeat (first | apply Kd.R_alloc | apply Kd.R_drewN | apply Kd.R_drew)); exact HO_4.out⟩, ⟨by (with_reducible repeat (first | apply Kd.S_alloc | apply Kd.S_drewN | apply Kd.S_drew)); exact HO_30.out⟩, ⟨by (with_reducible repeat (first | apply Kd.S_alloc | apply Kd.S_drewN | apply Kd.S_drew)); exact HO_234000.out⟩, ⟨by (with_reducible repeat (first | refine blk_drewN ?_ _ | refine blk_drew ?_ | refine blk_alloc ?_ _)); exact BK227.out⟩, ⟨by (with_reducible repeat (first | refine blk_drewN ?_ _ | refine blk_drew ?_ | refine blk_alloc ?_ _)); exact BK233.out⟩, ⟨by repeat (first | (with_reducible first | exact HB.out | apply below_alloc | apply pw_below_drewN | apply below_drew1 | refine below_set ?_ GE227.out | refine below_set ?_ GE233.out) | exact HB.out)⟩⟩
                        · rw [if_neg c33] at H
                          have c33b0 : ((rdOf ByteArray.empty t236 x32_2).toList == t242.toList) = false := beq_eq_false_iff_ne.mpr c33
                          have c33b1 : ((rdOf ByteArray.empty t236 x32_2).toList != t242.toList) = true := bne_iff_ne.mpr c33
                          obtain rfl := Option.some.inj H
                          have p240 : 0 ≤ (x32_2 : Int) := of_decide_eq_true (by first | (with_reducible assumption) | assumption)
                          have q240 : x32_2 < (t229.length : Int) := of_decide_eq_true (by first | (with_reducible assumption) | assumption)
                          obtain ⟨ad240, A240_0, c240_0, e240, hx240_0, hl240_0, hi240_0⟩ := at_L5 (Kd.S_reads' HO_30.out).2.2 x32_2 p240 q240
                          cases e240
                          obtain ⟨ce240, hce240, hMe240, hcc240⟩ := Kd.S_get HO_30.out [] x32_2 p240 (by first | exact q240 | exact of_decide_eq_true (by first | (with_reducible assumption) | assumption) | (have e_ := (Kd.S_reads' HO_30.out).1; omega))
                          obtain ⟨ve240_0, rfl, ge240_0⟩ := hMe240
                          have hv240_0 := hcc240 0 _ rfl
                          rw [Nat.add_zero, show ((Kd.slice 41 k41)).sz = 1 from rfl, Nat.mul_one] at hv240_0
                          replace hv240_0 := Option.some.inj (hv240_0.symm.trans hx240_0)
                          rw [hv240_0] at ge240_0
                          have HL240_0 := Aside0.mk (show Kd.R k41 41 _ _ _ _ (rd_L5 t229 x32_2) from ge240_0)
                          clear hv240_0 ge240_0
                          clear hcc240 hce240
                          have HR240_0 := Aside0.mk hi240_0
                          have HC240_0 := Aside0.mk hl240_0
                          clear hi240_0 hl240_0
                          replace p240 := eq_true p240
                          replace q240 := eq_true q240
                          try go_wp2
                          have n0_ := Aside0.mk (Kd.R_drew HO_4.out)
                          have n1_ := Aside0.mk (Kd.S_drew HO_30.out)
                          have n2_ := Aside0.mk (Kd.S_drew HO_234000.out)
                          have n3_ := Aside0.mk (Kd.R_drew HL240_0.out)
                          have n4_ := Aside0.mk (blk_drew BK227.out)
                          have n5_ := Aside0.mk (blk_drew BK233.out)
                          have n6_ := Aside0.mk (Kd.C_drew HR240_0.out)
                          have n7_ := Aside0.mk (below_drew1 HB.out)
                          clear HO_4
                          clear HO_30
                          clear HO_234000
                          clear HL240_0
                          clear BK227
                          clear BK233
                          clear HR240_0
                          clear HB
                          have HO_4 := n0_
                          have HO_30 := n1_
                          have HO_234000 := n2_
                          have HL240_0 := n3_
                          have BK227 := n4_
                          have BK233 := n5_
                          have HR240_0 := n6_
                          have HB := n7_
                          clear n0_ n1_ n2_ n3_ n4_ n5_ n6_ n7_
                          obtain ⟨Ao38, co38, eo38⟩ := Kd.R_slice HO_4.out
                          (first | subst eo38 | (injection eo38 with f1_ f2_ f3_; have f4_ := f1_.symm; have f5_ := f3_.symm; clear f1_ f2_ f3_; subst f4_; subst f5_))
                          have p241 : 0 ≤ (x32_2 : Int) := of_decide_eq_true (by first | (with_reducible assumption) | assumption)
                          have q241 : x32_2 < (t236.length : Int) := of_decide_eq_true (by first | (with_reducible assumption) | assumption)
                          obtain ⟨ad241, e241, hx241_0⟩ := Kd.at_string (Kd.R_reads' HO_4.out).2.2 x32_2 p241 q241
                          cases e241
                          replace p241 := eq_true p241
                          replace q241 := eq_true q241
                          refine start_ (n := 7) (S := fun w' => w'.cell? (ad241.add (x32_2).toNat) = some (.string (rdOf ByteArray.empty t236 x32_2))) (ds := []) #[false, false, false, false, false, false, false] (by kernel_rfl) rfl rfl (hx241_0) (fun hHeld => ?_)
                          generalize wr.drew = w37 at HO_4 HO_30 HO_234000 HL240_0 BK227 BK233 HR240_0 HB hx241_0 hHeld ⊢
                          refine pure_ (i := 0) (N := some 37) (v := ?_) (a' := ?_) #[true, false, false, false, false, false, false] rfl rfl (by kernel_rfl) (fun _ _ _ h => h) (Or.inl ⟨by rfl, ?_⟩) ?_ ?_
                          rotate_left
                          · intro w'
                            go_simp
                            with_reducible rfl
                          rotate_left
                          · simp only [Act.put, List.setIfInBounds_toArray, List.set_cons_zero, List.set_cons_succ, i64_w, i32_w]
                            rfl
                          refine pure_ (i := 1) (N := some 38) (v := ?_) (a' := ?_) #[true, true, false, false, false, false, false] rfl rfl (by kernel_rfl) (fun _ _ _ h => h) (Or.inl ⟨by rfl, ?_⟩) ?_ ?_
                          rotate_left
                          · intro w'
                            go_simp
                            with_reducible rfl
                          rotate_left
                          · simp only [Act.put, List.setIfInBounds_toArray, List.set_cons_zero, List.set_cons_succ, i64_w, i32_w]
                            rfl
                          refine pure_ (i := 2) (N := some 39) (v := ?_) (a' := ?_) #[true, true, true, false, false, false, false] rfl rfl (by kernel_rfl) (fun _ _ _ h => h) (Or.inl ⟨by rfl, ?_⟩) ?_ ?_
                          rotate_left
                          · intro w'
                            go_simp
                            with_reducible rfl
                          rotate_left
                          · simp only [Act.put, List.setIfInBounds_toArray, List.set_cons_zero, List.set_cons_succ, i64_w, i32_w]
                            rfl
                          refine pure_ (i := 4) (N := some 41) (v := ?_) (a' := ?_) #[true, true, true, false, true, false, false] rfl rfl (by kernel_rfl) (fun _ _ _ h => h) (Or.inl ⟨by rfl, ?_⟩) ?_ ?_
                          rotate_left
                          · intro w'
                            go_simp
                            with_reducible rfl
                          rotate_left
                          · simp only [Act.put, List.setIfInBounds_toArray, List.set_cons_zero, List.set_cons_succ, i64_w, i32_w]
                            rfl
                          refine take_ (i := 3) (N := some 40) (v := ?_) (a' := ?_) #[true, true, true, true, true, false, false] rfl rfl (by kernel_rfl) (fun _ _ _ h => h) (Or.inl ⟨by rfl, ?_⟩) hHeld ?_ ?_
                          rotate_left
                          · intro w' s0
                            go_simp
                            with_reducible rfl
                          rotate_left
                          · simp only [Act.put, List.setIfInBounds_toArray, List.set_cons_zero, List.set_cons_succ, i64_w, i32_w]
                            rfl
                          refine one_ (i := 5) (N := some 42) #[true, true, true, true, true, true, false] rfl rfl (by kernel_rfl) (by decide) (fun K hK => ?_)
                          refine goes_ Tryd.func9 (by kernel_rfl) rfl #[.slice A240_0 (rd_L5 t229 x32_2).length c240_0] (by rfl) rfl rfl (by (try simp only [List.map_toArray, List.map_cons, List.map_nil]); first | done | rfl | (simp only [List.length_drop, List.length_take]; rfl)) ?_
                          with_reducible refine (spec_FieldText.calls k2 _ _ (rd_L5 t229 x32_2) t242 _ ?side1 ?side2 A32.out).mono ?_
                          (case side1 => repeat (first | exact (by repeat (first | (with_reducible exact HR240_0.out) | (with_reducible refine Kd.C_alloc ?_ _) | (with_reducible refine Kd.C_drewN ?_ _) | (with_reducible refine Kd.C_drew ?_) | exact HR240_0.out)) | (with_reducible refine Kd.C_alloc ?_ _) | (with_reducible refine Kd.C_drewN ?_ _) | (with_reducible refine Kd.C_drew ?_)))
                          (case side2 => exact HC240_0.out)
                          rintro e w39 ⟨rfl, hb⟩
                          have HS0_ := (hb.cell (World.block_lt_of_cell? _ _ (hHeld))).trans (hHeld)
                          refine ⟨_, rfl, ?_⟩
                          have n0_ := Aside0.mk (Kd.R_below (by (with_reducible repeat (first | apply Kd.R_alloc | apply Kd.R_drewN | apply Kd.R_drew)); exact HO_4.out) hb)
                          have n1_ := Aside0.mk (Kd.S_below (by (with_reducible repeat (first | apply Kd.S_alloc | apply Kd.S_drewN | apply Kd.S_drew)); exact HO_30.out) hb)
                          have n2_ := Aside0.mk (Kd.S_below (by (with_reducible repeat (first | apply Kd.S_alloc | apply Kd.S_drewN | apply Kd.S_drew)); exact HO_234000.out) hb)
                          have n3_ := Aside0.mk (Kd.R_below (by (with_reducible repeat (first | apply Kd.R_alloc | apply Kd.R_drewN | apply Kd.R_drew)); exact HL240_0.out) hb)
                          have n4_ := Aside0.mk (blk_below (g := gb227) (o := .cells #[.slice A0_0 l0_0.length c0_0, .bool a0_1] 24 (0, 0)) (by (with_reducible repeat (first | refine blk_drewN ?_ _ | refine blk_drew ?_ | refine blk_alloc ?_ _)); exact BK227.out) hb)
                          have n5_ := Aside0.mk (blk_below (g := gb233) (o := .cells #[.slice (some ad240) t229.length co16, .bool t232] 28 (0, 0)) (by (with_reducible repeat (first | refine blk_drewN ?_ _ | refine blk_drew ?_ | refine blk_alloc ?_ _)); exact BK233.out) hb)
                          have n6_ := Aside0.mk (Kd.C_below (by repeat (first | (with_reducible exact HR240_0.out) | (with_reducible refine Kd.C_alloc ?_ _) | (with_reducible refine Kd.C_drewN ?_ _) | (with_reducible refine Kd.C_drew ?_) | exact HR240_0.out)) hb)
                          have n7_ := Aside0.mk (below_step (by repeat (first | (with_reducible first | exact HB.out | apply below_alloc | apply pw_below_drewN | apply below_drew1 | refine below_set ?_ GE227.out | refine below_set ?_ GE233.out) | exact HB.out)) hb)
                          clear HO_4
                          clear HO_30
                          clear HO_234000
                          clear HL240_0
                          clear BK227
                          clear BK233
                          clear HR240_0
                          clear HB
                          have HO_4 := n0_
                          have HO_30 := n1_
                          have HO_234000 := n2_
                          have HL240_0 := n3_
                          have BK227 := n4_
                          have BK233 := n5_
                          have HR240_0 := n6_
                          have HB := n7_
                          clear n0_ n1_ n2_ n3_ n4_ n5_ n6_ n7_
                          (try clear hb)
                          (try clear hb2)
                          (try clear hk)
                          (try clear hi)
                          refine hK.out _ _ (HS0_) (fun hHeld => ?_)
                          clear hK K
                          refine norm_ (a' := ?_) ?_ ?_
                          rotate_left
                          · show Act.put _ (some 42) _ = _
                            simp only [Act.put, List.setIfInBounds_toArray, List.set_cons_zero, List.set_cons_succ, i64_w, i32_w]
                            rfl
                          refine pure_ (i := 6) (N := some 43) (v := ?_) (a' := ?_) #[true, true, true, true, true, true, true] rfl rfl (by kernel_rfl) (fun _ _ _ h => h) (Or.inl ⟨by rfl, ?_⟩) ?_ ?_
                          rotate_left
                          · intro w'
                            go_simp
                            with_reducible rfl
                          rotate_left
                          · simp only [Act.put, List.setIfInBounds_toArray, List.set_cons_zero, List.set_cons_succ, i64_w, i32_w]
                            rfl
                          refine done_ (by kernel_rfl) ?_
                          try go_wp2
                          go_ret
                          exact ⟨by first | rfl | (simp [errW_none, errW_some] <;> rfl) | (simp [*, errW_none, errW_some] <;> rfl), by repeat (first | (with_reducible first | exact HB.out | apply below_alloc | apply pw_below_drewN | apply below_drew1 | refine below_set ?_ GE227.out | refine below_set ?_ GE233.out) | exact HB.out)⟩
                      · rw [if_neg c31] at H
                        exact absurd H (by simp)
                    · rw [if_neg c30] at H
                      exact absurd H (by simp)
                  · rw [if_neg c29] at H
                    exact absurd H (by simp)
                · rw [if_neg c28] at H
                  have c28b0 : decide (x32_2 < (t229.length : Int)) = false := decide_eq_false c28
                  clear c28
                  obtain rfl := Option.some.inj H
                  go_wp2
                  go_ret
                  exact ⟨by first | rfl | (simp [errW_none, errW_some] <;> rfl) | (simp [*, errW_none, errW_some] <;> rfl), by repeat (first | (with_reducible first | exact HB.out | apply below_alloc | apply pw_below_drewN | apply below_drew1 | refine below_set ?_ GE227.out | refine below_set ?_ GE233.out) | exact HB.out)⟩
    · replace c6 := Bool.eq_false_iff.mpr c6
      subst c6
      have H1 : (some true) = some r := by rw [if_neg (show ¬ (false = true) by decide)] at H; exact H
      clear H
      have H := H1
      clear H1
      obtain rfl := Option.some.inj H
      go_enter Tryd.func3, Tryd.ntmps3
      go_wp2_with (first | ((with_reducible refine gate_dst (N := 1) rfl ?_); (try (refine gate_guard (by rfl) ?_; dsimp only)); refine box_event ?hg (N := 1) ?hd (cs := #[.slice A0_0 l0_0.length c0_0, .bool a0_1]) (t := 24) ?hr ?_; (case hd => rfl); (case hg => rfl); (case hr => first | (go_simp; done) | (go_simp; rfl)); intro gb227 hg w40 hbox hb; have n0_ := Aside0.mk (below_step (by repeat (first | (with_reducible first | exact HB.out | apply below_alloc | apply pw_below_drewN | apply below_drew1) | exact HB.out)) hb); have n1_ := Aside0.mk (hbox); have n2_ := Aside0.mk ((by rw [hg]; exact (below_size (by repeat (first | (with_reducible first | exact HB.out | apply below_alloc | apply pw_below_drewN | apply below_drew1) | exact HB.out))) : w.heap.size ≤ gb227)); have n3_ := Aside0.mk ((by rw [hg]; exact (below_size (by repeat (first | (with_reducible first | exact HB.out | apply below_alloc | apply pw_below_drewN | apply below_drew1) | exact HB.out))) : w.heap.size ≤ gb227)); clear HB; have HB := n0_; have BK227 := n1_; have GW227 := n2_; have GE227 := n3_; clear n0_ n1_ n2_ n3_; clear hb hbox hg; have hcz41_0 : w40.cell? ⟨gb227, 0, none⟩ = some (.slice A0_0 l0_0.length c0_0) := (blk_cell BK227.out 0).trans rfl; have hcz41_1 : w40.cell? ⟨gb227, 1, none⟩ = some (.bool a0_1) := (blk_cell BK227.out 1).trans rfl; have hfz41_0 := blk_frozen BK227.out 0; have hfz41_1 := blk_frozen BK227.out 1) | ((with_reducible refine gate_callee (f := 4) rfl ?_); refine goesL_ (some 9) rfl rfl Tryd.func4 (by kernel_rfl) rfl #[.agg #[.slice A0_0 l0_0.length c0_0, .bool a0_1]] rfl (by (try simp only [List.map_toArray, List.map_cons, List.map_nil]); first | done | rfl | (simp only [List.length_drop, List.length_take]; rfl)) ?_; (with_reducible refine (laws_zzFits1.calls k _ _ l0_0 a0_1 true _ ?side1 ?side2 A2.out).mono ?_); (case side1 => repeat (first | exact (Kd.C_below HR0_0.out HB.out) | (with_reducible refine Kd.C_alloc ?_ _) | (with_reducible refine Kd.C_drewN ?_ _) | (with_reducible refine Kd.C_drew ?_))); (case side2 => exact HC0_0.out); rintro e w42 ⟨rfl, hb⟩; refine ⟨_, rfl, ?_⟩; have n0_ := Aside0.mk (blk_below (g := gb227) (o := .cells #[.slice A0_0 l0_0.length c0_0, .bool a0_1] 24 (0, 0)) (by (with_reducible repeat (first | refine blk_drewN ?_ _ | refine blk_drew ?_ | refine blk_alloc ?_ _)); exact BK227.out) hb); have n1_ := Aside0.mk (below_step (by repeat (first | (with_reducible first | exact HB.out | apply below_alloc | apply pw_below_drewN | apply below_drew1 | refine below_set ?_ GE227.out) | exact HB.out)) hb); clear BK227; clear HB; have BK227 := n0_; have HB := n1_; clear n0_ n1_; (try clear hb); (try clear hb2); (try clear hk); (try clear hi); have hcz43_0 : w42.cell? ⟨gb227, 0, none⟩ = some (.slice A0_0 l0_0.length c0_0) := (blk_cell BK227.out 0).trans rfl; have hcz43_1 : w42.cell? ⟨gb227, 1, none⟩ = some (.bool a0_1) := (blk_cell BK227.out 1).trans rfl; have hfz43_0 := blk_frozen BK227.out 0; have hfz43_1 := blk_frozen BK227.out 1) | ((with_reducible refine gate_callee (f := 5) rfl ?_); refine goesL_ (some 12) rfl rfl Tryd.func5 (by kernel_rfl) rfl #[.agg #[.slice A0_0 l0_0.length c0_0, .bool a0_1]] rfl (by (try simp only [List.map_toArray, List.map_cons, List.map_nil]); first | done | rfl | (simp only [List.length_drop, List.length_take]; rfl)) ?_; (with_reducible refine (laws_expr.calls k _ _ l0_0 a0_1 t229 t232 _ ?side1 ?side2 A4.out).mono ?_); (case side1 => repeat (first | exact (Kd.C_below HR0_0.out HB.out) | (with_reducible refine Kd.C_alloc ?_ _) | (with_reducible refine Kd.C_drewN ?_ _) | (with_reducible refine Kd.C_drew ?_))); (case side2 => exact HC0_0.out); rintro e w44 ⟨v230, rfl, ho0, hb⟩; refine ⟨_, rfl, ?_⟩; have n0_ := Aside0.mk (Kd.S_lower ho0 (below_size (by repeat (first | (with_reducible first | exact HB.out | apply below_alloc | apply pw_below_drewN | apply below_drew1 | refine below_set ?_ GE227.out) | exact HB.out)))); have n1_ := Aside0.mk (blk_below (g := gb227) (o := .cells #[.slice A0_0 l0_0.length c0_0, .bool a0_1] 24 (0, 0)) (by (with_reducible repeat (first | refine blk_drewN ?_ _ | refine blk_drew ?_ | refine blk_alloc ?_ _)); exact BK227.out) hb); have n2_ := Aside0.mk (below_step (by repeat (first | (with_reducible first | exact HB.out | apply below_alloc | apply pw_below_drewN | apply below_drew1 | refine below_set ?_ GE227.out) | exact HB.out)) hb); clear BK227; clear HB; have HO231 := n0_; have BK227 := n1_; have HB := n2_; clear n0_ n1_ n2_; (try clear hb); (try clear hb2); (try clear hk); (try clear hi); (try clear ho0)) | ((with_reducible refine gate_dst (N := 3) rfl ?_); (try (refine gate_guard (by rfl) ?_; dsimp only)); refine box_event ?hg (N := 3) ?hd (cs := #[.slice none 0 0, .bool false]) (t := 28) ?hr ?_; (case hd => rfl); (case hg => rfl); (case hr => first | (go_simp; done) | (go_simp; rfl)); intro gb233 hg w45 hbox hb; have n0_ := Aside0.mk (Kd.S_below (by (with_reducible repeat (first | apply Kd.S_alloc | apply Kd.S_drewN | apply Kd.S_drew)); exact HO231.out) hb); have n1_ := Aside0.mk (blk_below (g := gb227) (o := .cells #[.slice A0_0 l0_0.length c0_0, .bool a0_1] 24 (0, 0)) (by (with_reducible repeat (first | refine blk_drewN ?_ _ | refine blk_drew ?_ | refine blk_alloc ?_ _)); exact BK227.out) hb); have n2_ := Aside0.mk (below_step (by repeat (first | (with_reducible first | exact HB.out | apply below_alloc | apply pw_below_drewN | apply below_drew1 | refine below_set ?_ GE227.out) | exact HB.out)) hb); have n3_ := Aside0.mk (hbox); have n4_ := Aside0.mk ((by rw [hg]; exact (below_size (by repeat (first | (with_reducible first | exact HB.out | apply below_alloc | apply pw_below_drewN | apply below_drew1 | refine below_set ?_ GE227.out) | exact HB.out))) : w.heap.size ≤ gb233)); have n5_ := Aside0.mk ((by rw [hg]; exact (below_size (by repeat (first | (with_reducible first | exact HB.out | apply below_alloc | apply pw_below_drewN | apply below_drew1 | refine below_set ?_ GE227.out) | exact HB.out))) : w.heap.size ≤ gb233)); have n6_ := Aside0.mk ((by rw [hg]; exact Nat.ne_of_lt (blk_lt (g := gb227) (o := .cells #[.slice A0_0 l0_0.length c0_0, .bool a0_1] 24 (0, 0)) (by (with_reducible repeat (first | refine blk_drewN ?_ _ | refine blk_drew ?_ | refine blk_alloc ?_ _)); exact BK227.out)) : gb227 ≠ gb233)); have n7_ := Aside0.mk ((by rw [hg]; exact Nat.ne_of_gt (blk_lt (g := gb227) (o := .cells #[.slice A0_0 l0_0.length c0_0, .bool a0_1] 24 (0, 0)) (by (with_reducible repeat (first | refine blk_drewN ?_ _ | refine blk_drew ?_ | refine blk_alloc ?_ _)); exact BK227.out)) : gb233 ≠ gb227)); clear HO231; clear BK227; clear HB; have HO231 := n0_; have BK227 := n1_; have HB := n2_; have BK233 := n3_; have GW233 := n4_; have GE233 := n5_; have NB227_233 := n6_; have NB233_227 := n7_; clear n0_ n1_ n2_ n3_ n4_ n5_ n6_ n7_; clear hb hbox hg; obtain ⟨Ao46, co46, eo46⟩ := Kd.S_slice HO231.out; subst eo46; have hnb47 := NB233_227.out; have hnc47 := NB227_233.out; have hcz48_0 : w45.cell? ⟨gb233, 0, none⟩ = some (.slice none 0 0) := (blk_cell BK233.out 0).trans rfl; have hcz48_1 : w45.cell? ⟨gb233, 1, none⟩ = some (.bool false) := (blk_cell BK233.out 1).trans rfl; have hfz48_0 := blk_frozen BK233.out 0; have hfz48_1 := blk_frozen BK233.out 1) | ((with_reducible refine gate_callee (f := 6) rfl ?_); refine goesL_ (some 14) rfl rfl Tryd.func6 (by kernel_rfl) rfl #[.agg #[.slice Ao46 t229.length co46, .bool t232]] rfl (by (try simp only [List.map_toArray, List.map_cons, List.map_nil]); first | done | rfl | (simp only [List.length_drop, List.length_take]; rfl)) ?_; (with_reducible refine (spec_ExprGood.calls k _ _ t229 t232 false _ ?side1 ?side2 A5.out).mono ?_); (case side1 => refine (Kd.S_reads' (e := 35) (base := w.heap.size) (ok := fun k_ => True) (n := t229.length) (c := co46) ?_).2.2; exact (by (with_reducible repeat (first | apply Kd.S_alloc | apply Kd.S_drewN | apply Kd.S_drew)); exact (Kd.S_mono (Kd.S_far (p := ⟨gb233, 1, none⟩) (Kd.S_far (p := ⟨gb233, 0, none⟩) (Kd.S_types HO231.out BK233.out (by decide)) (fun _ hk => hk.2) (.slice Ao46 t229.length co46)) (fun _ hk => hk.2) (.bool t232)) (fun _ h_ => h_.1)))); (case side2 => exact (Kd.S_reads' HO231.out).2.1); rintro e w49 ⟨rfl, hb⟩; refine ⟨_, rfl, ?_⟩; have n0_ := Aside0.mk (Kd.S_below (by (with_reducible repeat (first | apply Kd.S_alloc | apply Kd.S_drewN | apply Kd.S_drew)); exact (Kd.S_mono (Kd.S_far (p := ⟨gb233, 1, none⟩) (Kd.S_far (p := ⟨gb233, 0, none⟩) (Kd.S_types HO231.out BK233.out (by decide)) (fun _ hk => hk.2) (.slice Ao46 t229.length co46)) (fun _ hk => hk.2) (.bool t232)) (fun _ h_ => h_.1))) hb); have n1_ := Aside0.mk (blk_below (g := gb227) (o := .cells #[.slice A0_0 l0_0.length c0_0, .bool a0_1] 24 (0, 0)) (by (with_reducible repeat (first | refine blk_drewN ?_ _ | refine blk_drew ?_ | refine blk_alloc ?_ _)); refine blk_far ?_ NB227_233.out _; (with_reducible repeat (first | refine blk_drewN ?_ _ | refine blk_drew ?_ | refine blk_alloc ?_ _)); refine blk_far ?_ NB227_233.out _; (with_reducible repeat (first | refine blk_drewN ?_ _ | refine blk_drew ?_ | refine blk_alloc ?_ _)); exact BK227.out) hb); have n2_ := Aside0.mk (blk_below (g := gb233) (o := .cells #[.slice Ao46 t229.length co46, .bool t232] 28 (0, 0)) (by (with_reducible repeat (first | refine blk_drewN ?_ _ | refine blk_drew ?_ | refine blk_alloc ?_ _)); refine blk_put (cs := #[.slice Ao46 t229.length co46, .bool false]) ?_ 1 _ rfl; (with_reducible repeat (first | refine blk_drewN ?_ _ | refine blk_drew ?_ | refine blk_alloc ?_ _)); refine blk_put (cs := #[.slice none 0 0, .bool false]) ?_ 0 _ rfl; (with_reducible repeat (first | refine blk_drewN ?_ _ | refine blk_drew ?_ | refine blk_alloc ?_ _)); exact BK233.out) hb); have n3_ := Aside0.mk (below_step (by repeat (first | (with_reducible first | exact HB.out | apply below_alloc | apply pw_below_drewN | apply below_drew1 | refine below_set ?_ GE227.out | refine below_set ?_ GE233.out) | exact HB.out)) hb); clear HO231; clear BK227; clear BK233; clear HB; have HO231 := n0_; have BK227 := n1_; have BK233 := n2_; have HB := n3_; clear n0_ n1_ n2_ n3_; (try clear hb); (try clear hb2); (try clear hk); (try clear hi)))
      go_ret
      exact ⟨by first | rfl | (simp [errW_none, errW_some] <;> rfl) | (simp [*, errW_none, errW_some] <;> rfl), by repeat (first | (with_reducible first | exact HB.out | apply below_alloc | apply pw_below_drewN | apply below_drew1 | refine below_set ?_ GE227.out | refine below_set ?_ GE233.out) | exact HB.out)⟩
  · replace c3 := Bool.eq_false_iff.mpr c3
    subst c3
    have H1 : (some true) = some r := by rw [if_neg (show ¬ (false = true) by decide)] at H; exact H
    clear H
    have H := H1
    clear H1
    obtain rfl := Option.some.inj H
    go_enter Tryd.func3, Tryd.ntmps3
    go_wp2_with (first | ((with_reducible refine gate_dst (N := 1) rfl ?_); (try (refine gate_guard (by rfl) ?_; dsimp only)); refine box_event ?hg (N := 1) ?hd (cs := #[.slice A0_0 l0_0.length c0_0, .bool a0_1]) (t := 24) ?hr ?_; (case hd => rfl); (case hg => rfl); (case hr => first | (go_simp; done) | (go_simp; rfl)); intro gb227 hg w50 hbox hb; have n0_ := Aside0.mk (below_step (by repeat (first | (with_reducible first | exact HB.out | apply below_alloc | apply pw_below_drewN | apply below_drew1) | exact HB.out)) hb); have n1_ := Aside0.mk (hbox); have n2_ := Aside0.mk ((by rw [hg]; exact (below_size (by repeat (first | (with_reducible first | exact HB.out | apply below_alloc | apply pw_below_drewN | apply below_drew1) | exact HB.out))) : w.heap.size ≤ gb227)); have n3_ := Aside0.mk ((by rw [hg]; exact (below_size (by repeat (first | (with_reducible first | exact HB.out | apply below_alloc | apply pw_below_drewN | apply below_drew1) | exact HB.out))) : w.heap.size ≤ gb227)); clear HB; have HB := n0_; have BK227 := n1_; have GW227 := n2_; have GE227 := n3_; clear n0_ n1_ n2_ n3_; clear hb hbox hg; have hcz51_0 : w50.cell? ⟨gb227, 0, none⟩ = some (.slice A0_0 l0_0.length c0_0) := (blk_cell BK227.out 0).trans rfl; have hcz51_1 : w50.cell? ⟨gb227, 1, none⟩ = some (.bool a0_1) := (blk_cell BK227.out 1).trans rfl; have hfz51_0 := blk_frozen BK227.out 0; have hfz51_1 := blk_frozen BK227.out 1) | ((with_reducible refine gate_callee (f := 4) rfl ?_); refine goesL_ (some 9) rfl rfl Tryd.func4 (by kernel_rfl) rfl #[.agg #[.slice A0_0 l0_0.length c0_0, .bool a0_1]] rfl (by (try simp only [List.map_toArray, List.map_cons, List.map_nil]); first | done | rfl | (simp only [List.length_drop, List.length_take]; rfl)) ?_; (with_reducible refine (laws_zzFits1.calls k _ _ l0_0 a0_1 false _ ?side1 ?side2 A2.out).mono ?_); (case side1 => repeat (first | exact (Kd.C_below HR0_0.out HB.out) | (with_reducible refine Kd.C_alloc ?_ _) | (with_reducible refine Kd.C_drewN ?_ _) | (with_reducible refine Kd.C_drew ?_))); (case side2 => exact HC0_0.out); rintro e w52 ⟨rfl, hb⟩; refine ⟨_, rfl, ?_⟩; have n0_ := Aside0.mk (blk_below (g := gb227) (o := .cells #[.slice A0_0 l0_0.length c0_0, .bool a0_1] 24 (0, 0)) (by (with_reducible repeat (first | refine blk_drewN ?_ _ | refine blk_drew ?_ | refine blk_alloc ?_ _)); exact BK227.out) hb); have n1_ := Aside0.mk (below_step (by repeat (first | (with_reducible first | exact HB.out | apply below_alloc | apply pw_below_drewN | apply below_drew1 | refine below_set ?_ GE227.out) | exact HB.out)) hb); clear BK227; clear HB; have BK227 := n0_; have HB := n1_; clear n0_ n1_; (try clear hb); (try clear hb2); (try clear hk); (try clear hi)))
    go_ret
    exact ⟨by first | rfl | (simp [errW_none, errW_some] <;> rfl) | (simp [*, errW_none, errW_some] <;> rfl), by repeat (first | (with_reducible first | exact HB.out | apply below_alloc | apply pw_below_drewN | apply below_drew1 | refine below_set ?_ GE227.out) | exact HB.out)⟩

end Go.Proofs.YthndpmjmnglhfaaDoor.Core
namespace Go.Proofs.YthndpmjmnglhfaaDoor.Core
open Go.RowKit Go.Proofs.YthndpmjmnglhfaaDoorW.PrintWords

/-- A text out of its letters. -/
def B (l : List UInt8) : ByteArray := ⟨l.toArray⟩
theorem B_size (l : List UInt8) : (B l).size = l.length := by simp [B, ByteArray.size]
theorem B_data (l : List UInt8) : (B l).data.toList = l := by simp [B]
theorem B_list (l : List UInt8) : (B l).toList = l := by rw [Lib.toList_data, B_data]
theorem B_of (s : ByteArray) : B s.data.toList = s := by cases s; simp [B]
theorem B_inj {l m : List UInt8} (h : B l = B m) : l = m := by
  have := congrArg (fun s : ByteArray => s.data.toList) h
  simpa [B_data] using this
theorem B_ext_iff {s t : ByteArray} (h : s.data.toList = t.data.toList) : s = t := by rw [← B_of s, ← B_of t, h]
theorem B_app (l m : List UInt8) : B l ++ B m = B (l ++ m) := by
  apply B_ext_iff
  rw [B_data, ByteArray.data_append, Array.toList_append, B_data, B_data]
theorem B_cut (l : List UInt8) (i j : Nat) : (B l).extract i j = B ((l.drop i).take (j - i)) := by
  apply B_ext_iff
  rw [Lib.extract_data, B_data, B_data]
theorem B_bytesOf (l : List UInt8) : bytesOf (B l) = l.map fun b => (b.toNat : Int) := by rw [bytesOf, B_data]
theorem strOfNums_B (l : List UInt8) : strOfNums (l.map fun b => (b.toNat : Int)) = B l := by
  unfold strOfNums B
  congr 2
  rw [List.map_map]
  conv => rhs; rw [← List.map_id l]
  apply List.map_congr_left
  intro b _
  simp
theorem bt_B (l : List UInt8) (i : Int) (h0 : 0 ≤ i) (h : i < (l.length : Int)) : bt (B l) i = ((l[i.toNat]'(by omega)).toNat : Int) := by
  unfold bt
  rw [dif_pos (by rw [B_size]; omega)]
  have : (B l)[i.toNat]'(by rw [B_size]; omega) = l[i.toNat]'(by omega) := by simp [B, ByteArray.getElem_eq_getElem_data]
  rw [this]
theorem bt_B_at (l : List UInt8) (i : Nat) (h : i < l.length) : bt (B l) (i : Int) = ((l[i]).toNat : Int) := by
  rw [bt_B l _ (by omega) (by omega)]; simp
theorem wrap64_id {i : Int} (h0 : -9223372036854775808 ≤ i) (h1 : i ≤ 9223372036854775807) : wrap64 i = i := by unfold wrap64; omega
theorem wrap64_nat (i : Nat) (h : i < 9223372036854775807) : wrap64 ((i : Int) + 1) = ((i + 1 : Nat) : Int) := by rw [wrap64_id (by omega) (by omega)]; rfl
theorem rd_at (l : List Int) (i : Nat) : rd l (i : Int) = l.getD i 0 := by simp [rd]
/-- The rounds of a loop: one round, and what follows it. -/
theorem Ev.round {α : Type} {g f : Nat → Option α} {r : α} (k : Ev f r) (h : ∀ k, g (k + 1) = f k) : Ev g r := Ev.step h k
theorem Ev.eq {α : Type} {g : Nat → Option α} {r : α} (r' : α) (h : Ev g r') (e : r' = r) : Ev g r := e ▸ h
theorem Ev.done {α : Type} {g : Nat → Option α} {r : α} (h : ∀ k, g (k + 1) = some r) : Ev g r := Ev.step h (Ev.now r)
theorem Ev.unique {α : Type} {g : Nat → Option α} {r r' : α} (h : Ev g r) (h' : Ev g r') : r = r' := by
  obtain ⟨K, hK⟩ := h
  obtain ⟨K', hK'⟩ := h'
  exact Option.some.inj ((hK _ (Nat.le_max_left K K')).symm.trans (hK' _ (Nat.le_max_right K K')))
theorem Ev.const {α : Type} {o : Option α} {r : α} (h : o = some r) : Ev (fun _ => o) r := ⟨0, fun _ _ => h⟩

/-- The digits of a number. -/
def decN (n : Nat) : List UInt8 := if _h : n < 10 then [UInt8.ofNat (48 + n)] else decN (n / 10) ++ [UInt8.ofNat (48 + n % 10)]
termination_by n
theorem decN_lt (n : Nat) (h : n < 10) : decN n = [UInt8.ofNat (48 + n)] := by rw [decN, dif_pos h]
theorem decN_ge (n : Nat) (h : ¬ n < 10) : decN n = decN (n / 10) ++ [UInt8.ofNat (48 + n % 10)] := by rw [decN, dif_neg h]
theorem decN_digit (n : Nat) : ∀ b ∈ decN n, 48 ≤ b.toNat ∧ b.toNat ≤ 57 := by
  induction n using decN.induct with
  | case1 n h =>
    rw [decN_lt n h]
    intro b hb
    rw [List.mem_singleton] at hb
    subst hb
    have : (48 + n) % 256 = 48 + n := by omega
    simp [this]
    omega
  | case2 n h ih =>
    rw [decN_ge n h]
    intro b hb
    rcases List.mem_append.1 hb with hb | hb
    · exact ih b hb
    · rw [List.mem_singleton] at hb
      subst hb
      have : (48 + n % 10) % 256 = 48 + n % 10 := by omega
      simp [this]
      omega
theorem decN_ne (n : Nat) : decN n ≠ [] := by
  by_cases h : n < 10
  · rw [decN_lt n h]; simp
  · rw [decN_ge n h]; simp
theorem decN_length (n : Nat) (m : Nat) (h : n < 10 ^ (m + 1)) : (decN n).length ≤ m + 1 := by
  induction m generalizing n with
  | zero => rw [decN_lt n (by simpa using h)]; simp
  | succ m ih =>
    by_cases h10 : n < 10
    · rw [decN_lt n h10]; simp
    · rw [decN_ge n h10]
      have := ih (n / 10) (by rw [Nat.div_lt_iff_lt_mul (by omega)]; rw [Nat.pow_succ] at h; exact h)
      simp
      omega
end Go.Proofs.YthndpmjmnglhfaaDoor.Core
namespace Go.Proofs.YthndpmjmnglhfaaDoor.Core
open Go.RowKit Go.Proofs.YthndpmjmnglhfaaDoorW.PrintWords

/-- The first place of a text in another, from place i on; -1 if there is none. -/
def idxL (m : List UInt8) : List UInt8 → Nat → Int
  | [], _ => -1
  | b :: t, i => if m.length ≤ t.length + 1 then (if (b :: t).take m.length = m then (i : Int) else idxL m t (i + 1)) else -1

theorem zzIndex_from (l m : List UInt8) (hm : m ≠ []) (hl : l.length < 4611686018427387904) (hml : m.length < 4611686018427387904) :
    ∀ (rest : List UInt8) (i : Nat), l.drop i = rest → i ≤ l.length → Ev (fun k => gronx_zzIndex.l0 k (B l) (B m) (i : Int)) (idxL m rest i) := by
  have hm0 : 0 < m.length := List.length_pos_iff.2 hm
  intro rest
  induction rest with
  | nil =>
    intro i hi hil
    have hlen : l.length ≤ i := List.drop_eq_nil_iff.1 hi
    refine Ev.done fun k => ?_
    simp only [gronx_zzIndex.l0, B_size]
    rw [wrap64_id (by omega) (by omega), if_neg (by omega)]
    rfl
  | cons b t ih =>
    intro i hi hil
    have hlen : t.length + 1 = l.length - i := by have := congrArg List.length hi; simpa using this.symm
    unfold idxL
    by_cases h1 : m.length ≤ t.length + 1
    · rw [if_pos h1]
      have hcut : (B l).extract ((i : Int)).toNat (((i : Int) + (m.length : Int))).toNat = B ((b :: t).take m.length) := by
        rw [B_cut, show ((i : Int)).toNat = i by omega, hi, show (((i : Int) + (m.length : Int))).toNat - i = m.length by omega]
      by_cases h2 : (b :: t).take m.length = m
      · rw [if_pos h2]
        refine Ev.done fun k => ?_
        simp only [gronx_zzIndex.l0, B_size]
        rw [wrap64_id (by omega) (by omega), if_pos (by omega), if_pos (by omega), if_pos (by omega), hcut, B_list, B_list, if_pos h2]
      · rw [if_neg h2]
        refine Ev.step (f := fun k => gronx_zzIndex.l0 k (B l) (B m) ((i + 1 : Nat) : Int)) (fun k => ?_) (ih (i + 1) ?_ (by omega))
        · simp only [gronx_zzIndex.l0, B_size]
          rw [wrap64_id (by omega) (by omega), if_pos (by omega), if_pos (by omega), if_pos (by omega), hcut, B_list, B_list, if_neg h2, wrap64_nat i (by omega)]
        · rw [← List.drop_drop, hi]; rfl
    · rw [if_neg h1]
      refine Ev.done fun k => ?_
      simp only [gronx_zzIndex.l0, B_size]
      rw [wrap64_id (by omega) (by omega), if_neg (by omega)]
theorem zzIndex_ev (l m : List UInt8) (hm : m ≠ []) (hl : l.length < 4611686018427387904) (hml : m.length < 4611686018427387904) :
    Ev (fun k => gronx_zzIndex.f k (B l) (B m)) (idxL m l 0) := zzIndex_from l m hm hl hml l 0 rfl (Nat.zero_le _)

theorem idxL_one_none (c : UInt8) (l : List UInt8) (h : c ∉ l) (i : Nat) : idxL [c] l i = -1 := by
  induction l generalizing i with
  | nil => rfl
  | cons b t ih =>
    unfold idxL
    rw [if_pos (by simp), if_neg (by simp; intro e; exact h (by simp [e])), ih (fun e => h (by simp [e]))]
theorem idxL_one_at (c : UInt8) (p r : List UInt8) (h : c ∉ p) (i : Nat) : idxL [c] (p ++ c :: r) i = ((i + p.length : Nat) : Int) := by
  induction p generalizing i with
  | nil => simp [idxL]
  | cons b t ih =>
    rw [List.cons_append]
    unfold idxL
    rw [if_pos (by simp), if_neg (by simp; intro e; exact h (by simp [e])), ih (fun e => h (by simp [e]))]
    simp
    omega

/-- A text cut at each place of a letter. -/
def splitL (c : UInt8) : List UInt8 → List (List UInt8)
  | [] => [[]]
  | b :: t => if b = c then [] :: splitL c t else match splitL c t with | [] => [[b]] | h :: r => (b :: h) :: r
theorem splitL_none (c : UInt8) (l : List UInt8) (h : c ∉ l) : splitL c l = [l] := by
  induction l with
  | nil => rfl
  | cons b t ih => rw [splitL, if_neg (fun e => h (by simp [e])), ih (fun e => h (by simp [e]))]
theorem splitL_at (c : UInt8) (p r : List UInt8) (h : c ∉ p) : splitL c (p ++ c :: r) = p :: splitL c r := by
  induction p with
  | nil => simp [splitL]
  | cons b t ih => rw [List.cons_append, splitL, if_neg (fun e => h (by simp [e])), ih (fun e => h (by simp [e]))]
theorem mem_cut {c : UInt8} {l : List UInt8} (h : c ∈ l) : ∃ p r, l = p ++ c :: r ∧ c ∉ p := by
  induction l with
  | nil => cases h
  | cons b t ih =>
    by_cases e : b = c
    · exact ⟨[], t, by simp [e], by simp⟩
    · obtain ⟨p, r, rfl, hp⟩ := ih (by rcases List.mem_cons.1 h with h | h; exact absurd h.symm e; exact h)
      exact ⟨b :: p, r, rfl, by simp [hp, Ne.symm e]⟩
theorem zzSplit_from (c : UInt8) : ∀ (n : Nat) (l : List UInt8) (acc : List ByteArray), l.length ≤ n → l.length + acc.length < 8796093022208 →
    Ev (fun k => gronx_zzSplit.l0 k (B l) (B [c]) acc) (acc ++ (splitL c l).map B) := by
  intro n
  induction n with
  | zero =>
    intro l acc hn hb
    obtain rfl : l = [] := List.eq_nil_of_length_eq_zero (by omega)
    have hix := zzIndex_ev [] [c] (by simp) (by simp) (by simp)
    refine Ev.step (f := fun k => (gronx_zzIndex.f k (B []) (B [c])).bind fun t => if t < 0 then some (acc ++ [B []]) else none) (fun k => ?_) (Ev.bind hix (Ev.const (by simp [idxL, splitL])))
    simp only [gronx_zzSplit.l0]
    cases gronx_zzIndex.f k (B []) (B [c]) with
    | none => rfl
    | some t =>
      simp only [Option.bind_some]
      by_cases h : t < 0
      · rw [if_pos h, if_pos h, if_pos (by omega)]
      · rw [if_neg h, if_neg h, if_pos (by omega)]
        by_cases h2 : t ≤ ((B []).size : Int)
        · have h3 : t = 0 := by rw [B_size] at h2; simp at h2; omega
          subst h3
          rw [if_pos h2, if_pos (by omega), B_size, B_size, wrap64_id (by simp) (by simp), if_pos (by simp), if_neg (by simp)]
        · rw [if_neg h2]
  | succ n ih =>
    intro l acc hn hb
    by_cases hc : c ∈ l
    · obtain ⟨p, r, rfl, hp⟩ := mem_cut hc
      have hlen : (p ++ c :: r).length = p.length + 1 + r.length := by simp; omega
      have hix := zzIndex_ev (p ++ c :: r) [c] (by simp) (by omega) (by simp)
      rw [idxL_one_at c p r hp] at hix
      rw [splitL_at c p r hp]
      have hrec := ih r (acc ++ [B p]) (by omega) (by simp; omega)
      refine Ev.step (f := fun k => (gronx_zzIndex.f k (B (p ++ c :: r)) (B [c])).bind fun t => if t = ((0 + p.length : Nat) : Int) then gronx_zzSplit.l0 k (B r) (B [c]) (acc ++ [B p]) else gronx_zzSplit.l0 (k + 1) (B (p ++ c :: r)) (B [c]) acc) (fun k => ?_) (Ev.bind hix ?_)
      · cases hg : gronx_zzIndex.f k (B (p ++ c :: r)) (B [c]) with
        | none => simp only [gronx_zzSplit.l0, hg]; rfl
        | some t =>
          simp only [Option.bind_some]
          by_cases h : t = ((0 + p.length : Nat) : Int)
          · rw [if_pos h]
            subst h
            simp only [gronx_zzSplit.l0, hg, Option.bind_some, B_size]
            rw [if_neg (by omega), if_pos (by omega), if_pos (by rw [hlen]; omega), if_pos (by omega), wrap64_id (by simp; omega) (by simp; omega), if_pos (by simp; omega), if_pos (by rw [hlen]; simp; omega)]
            congr 1
            · rw [B_cut]
              congr 1
              simp only [Nat.zero_add, List.length_singleton]
              rw [show ((p.length : Int) + ((1 : Nat) : Int)).toNat = p.length + 1 by omega, List.drop_append, List.drop_eq_nil_of_le (by omega), show p.length + 1 - p.length = 1 by omega]
              simp only [List.nil_append, List.drop_succ_cons, List.drop_zero]
              exact List.take_of_length_le (by omega)
            · rw [B_cut]
              congr 3
              simp
          · rw [if_neg h]
      · refine Ev.congr (f := fun k => gronx_zzSplit.l0 k (B r) (B [c]) (acc ++ [B p])) (fun k => by rw [if_pos rfl]) ?_
        simpa using hrec
    · have hix := zzIndex_ev l [c] (by simp) (by omega) (by simp)
      rw [idxL_one_none c l hc] at hix
      rw [splitL_none c l hc]
      refine Ev.step (f := fun k => (gronx_zzIndex.f k (B l) (B [c])).bind fun t => if t < 0 then some (acc ++ [B l]) else gronx_zzSplit.l0 (k + 1) (B l) (B [c]) acc) (fun k => ?_) (Ev.bind hix (Ev.const (by simp)))
      cases hg : gronx_zzIndex.f k (B l) (B [c]) with
      | none => simp only [gronx_zzSplit.l0, hg]; rfl
      | some t =>
        simp only [Option.bind_some]
        by_cases h : t < 0
        · rw [if_pos h]; simp only [gronx_zzSplit.l0, hg, Option.bind_some]; rw [if_pos h, if_pos (by omega)]
        · rw [if_neg h]
theorem zzSplit_ev (c : UInt8) (l : List UInt8) (h : l.length < 8796093022208) : Ev (fun k => gronx_zzSplit.f k (B l) (B [c])) ((splitL c l).map B) := by
  have := zzSplit_from c l.length l [] (Nat.le_refl _) (by simpa using h)
  rw [List.nil_append] at this
  exact this
theorem zzReplace_no (l m q : List UInt8) (hm : m ≠ []) (hml : m.length < 4611686018427387904) (h : idxL m l 0 = -1) (hl : l.length < 140737488355328) :
    Ev (fun k => gronx_zzReplaceAll.f k (B l) (B m) (B q)) (B l) := by
  have hix := zzIndex_ev l m hm (by omega) hml
  rw [h] at hix
  unfold gronx_zzReplaceAll.f
  refine Ev.step (f := fun k => (gronx_zzIndex.f k (B l) (B m)).bind fun t => if t < 0 then some (B l) else gronx_zzReplaceAll.l0 (k + 1) (B l) (B m) (B q) []) (fun k => ?_) (Ev.bind hix (Ev.const (by simp)))
  cases hg : gronx_zzIndex.f k (B l) (B m) with
  | none => simp only [gronx_zzReplaceAll.l0, hg]; rfl
  | some t =>
    simp only [Option.bind_some]
    by_cases h : t < 0
    · rw [if_pos h]; simp only [gronx_zzReplaceAll.l0, hg, Option.bind_some]; rw [if_pos h, if_pos (by simp [B_size]; omega), List.nil_append, B_bytesOf, strOfNums_B]
    · rw [if_neg h]

theorem zzTrim_ev (l : List UInt8) (hl : l.length < 4611686018427387904) (hne : l ≠ []) (h0 : ∀ b, l.head? = some b → b ≠ 32 ∧ b ≠ 9) (h1 : ∀ b, l.getLast? = some b → b ≠ 32 ∧ b ≠ 9) :
    Ev (fun k => gronx_zzTrim.f k (B l)) (B l) := by
  have hpos : 0 < l.length := List.length_pos_iff.2 hne
  have hU : ∀ b : UInt8, b ≠ 32 → ¬ (b.toNat : Int) = 32 := fun b hb e => hb (UInt8.toNat_inj.1 (show b.toNat = 32 by omega))
  have hV : ∀ b : UInt8, b ≠ 9 → ¬ (b.toNat : Int) = 9 := fun b hb e => hb (UInt8.toNat_inj.1 (show b.toNat = 9 by omega))
  have e0 : bt (B l) 0 = ((l[0]'hpos).toNat : Int) := bt_B_at l 0 hpos
  have e1 : bt (B l) ((l.length : Int) - 1) = ((l[l.length - 1]'(by omega)).toNat : Int) := by
    have := bt_B_at l (l.length - 1) (by omega)
    rwa [show ((l.length - 1 : Nat) : Int) = (l.length : Int) - 1 by omega] at this
  have a0 := h0 (l[0]'hpos) (by rw [List.head?_eq_getElem?, List.getElem?_eq_getElem hpos])
  have a1 := h1 (l[l.length - 1]'(by omega)) (by rw [List.getLast?_eq_getElem?, List.getElem?_eq_getElem (by omega)])
  unfold gronx_zzTrim.f
  refine Ev.step (f := fun k => gronx_zzTrim.j1 k (B l)) (fun k => ?_) (Ev.step (f := fun k => gronx_zzTrim.l1 k (B l)) (fun k => by simp only [gronx_zzTrim.j1]) (Ev.done fun k => ?_))
  · simp only [gronx_zzTrim.l0, B_size]
    rw [if_pos (by omega), if_pos (by omega), e0, if_neg (hU _ a0.1), if_neg (hV _ a0.2)]
  · simp only [gronx_zzTrim.l1, B_size]
    rw [if_pos (by omega), wrap64_id (by omega) (by omega), if_pos (by omega), if_pos (by omega), e1, if_neg (hU _ a1.1), if_neg (hV _ a1.2)]

/-- No two spaces stand side by side. -/
def noDbl : List UInt8 → Bool
  | a :: b :: t => !(a == 32 && b == 32) && noDbl (b :: t)
  | _ => true
theorem noDbl_idx (l : List UInt8) (h : noDbl l = true) (i : Nat) : idxL [32, 32] l i = -1 := by
  induction l generalizing i with
  | nil => rfl
  | cons a t ih =>
    unfold idxL
    cases t with
    | nil => rw [if_neg (by simp)]
    | cons b t =>
      simp only [noDbl, Bool.and_eq_true, Bool.not_eq_true', Bool.and_eq_false_iff] at h
      rw [if_pos (by simp), if_neg ?_, ih h.2]
      intro e
      simp at e
      rcases h.1 with h1 | h1
      · simp [e.1] at h1
      · simp [e.2] at h1
/-- Signs and digits: no white space but the space, no letter. -/
def plainB (b : UInt8) : Bool := b == 32 || (decide (33 ≤ b.toNat) && decide (b.toNat ≤ 63))
theorem noDbl_at (l : List UInt8) (h : noDbl l = true) (i : Nat) (h1 : i + 1 < l.length) (e : l[i]'(by omega) = 32) : l[i + 1] ≠ 32 := by
  induction l generalizing i with
  | nil => simp at h1
  | cons a t ih =>
    cases t with
    | nil => simp at h1
    | cons b t =>
      simp only [noDbl, Bool.and_eq_true, Bool.not_eq_true', Bool.and_eq_false_iff] at h
      cases i with
      | zero =>
        simp at e
        subst e
        intro e2
        simp at e2
        subst e2
        simp at h
      | succ i => exact ih h.2 i (by simpa using h1) (by simpa using e)
theorem zzSpaces_from (l : List UInt8) (hl : l.length < 140737488355328) (hd : noDbl l = true) (hp : ∀ b ∈ l, plainB b = true) :
    ∀ (d i : Nat), l.length - i = d → i ≤ l.length → ∀ (inn : Bool), (inn = true → ∃ h : 0 < i ∧ i ≤ l.length, l[i - 1]'(by omega) = 32) →
      Ev (fun k => gronx_zzSpaces.l0 k (B l) ((l.take i).map fun b => (b.toNat : Int)) inn (i : Int)) (B l) := by
  intro d
  induction d with
  | zero =>
    intro i hd' hi inn hin
    refine Ev.done fun k => ?_
    simp only [gronx_zzSpaces.l0, B_size]
    rw [if_neg (by omega), strOfNums_B, List.take_of_length_le (by omega)]
  | succ d ih =>
    intro i hd' hi inn hin
    have hlt : i < l.length := by omega
    have hb := hp _ (List.getElem_mem hlt)
    have hbt := bt_B_at l i hlt
    have htake : (l.take (i + 1)).map (fun b => (b.toNat : Int)) = (l.take i).map (fun b => (b.toNat : Int)) ++ [(l[i].toNat : Int)] := by
      rw [List.take_succ_eq_append_getElem hlt, List.map_append]; rfl
    by_cases hs : l[i] = 32
    · have hin0 : inn = false := by
        cases inn with
        | false => rfl
        | true =>
          obtain ⟨hh, e⟩ := hin rfl
          have := noDbl_at l hd (i - 1) (by omega) e
          simp only [show i - 1 + 1 = i by omega] at this
          exact absurd hs this
      subst hin0
      refine Ev.step (f := fun k => gronx_zzSpaces.j1 k (B l) ((l.take i).map fun b => (b.toNat : Int)) false (i : Int) true) (fun k => ?_) ?_
      · simp only [gronx_zzSpaces.l0, B_size]
        rw [if_pos (by omega), if_pos (by omega), hbt, hs, if_pos (by rfl)]
        rfl
      · refine Ev.step (f := fun k => gronx_zzSpaces.l0 k (B l) ((l.take (i + 1)).map fun b => (b.toNat : Int)) true ((i + 1 : Nat) : Int)) (fun k => ?_) (ih (i + 1) (by omega) (by omega) true (fun _ => ⟨⟨by omega, by omega⟩, by simpa using hs⟩))
        simp only [gronx_zzSpaces.j1]
        rw [if_pos trivial, if_neg (by simp), if_pos (by simp; omega), wrap64_nat i (by omega), htake, hs]
        rfl
    · have hge : 33 ≤ l[i].toNat ∧ l[i].toNat ≤ 63 := by
        simp only [plainB, Bool.or_eq_true, beq_iff_eq, Bool.and_eq_true, decide_eq_true_eq] at hb
        rcases hb with hb | hb
        · exact absurd hb hs
        · exact hb
      refine Ev.step (f := fun k => gronx_zzSpaces.j1 k (B l) ((l.take i).map fun b => (b.toNat : Int)) inn (i : Int) false) (fun k => ?_) ?_
      · simp only [gronx_zzSpaces.l0, B_size]
        rw [if_pos (by omega), if_pos (by omega), hbt, if_neg (by omega), if_neg (by omega), if_neg (by omega), if_neg (by omega), show ((l[i].toNat : Int) == 13) = false by simp; omega]
      · refine Ev.step (f := fun k => gronx_zzSpaces.l0 k (B l) ((l.take (i + 1)).map fun b => (b.toNat : Int)) false ((i + 1 : Nat) : Int)) (fun k => ?_) (ih (i + 1) (by omega) (by omega) false (by simp))
        simp only [gronx_zzSpaces.j1, B_size]
        rw [if_neg (by simp), if_pos (by omega), if_pos (by omega), if_pos (by simp; omega), wrap64_nat i (by omega), htake, hbt]
theorem zzSpaces_ev (l : List UInt8) (hl : l.length < 140737488355328) (hd : noDbl l = true) (hp : ∀ b ∈ l, plainB b = true) : Ev (fun k => gronx_zzSpaces.f k (B l)) (B l) := by
  have := zzSpaces_from l hl hd hp l.length 0 (by simp) (by omega) false (by simp)
  simpa [gronx_zzSpaces.f] using this

theorem literal_no (l : List UInt8) (h : ∀ b ∈ l, b.toNat ≤ 63) : gronx_literal.f (B l) = some (B []) := by
  have hne : ∀ (c d e : UInt8), 65 ≤ c.toNat → ¬ l = [c, d, e] := by
    intro c d e hc heq
    have := h c (by simp [heq])
    omega
  unfold gronx_literal.f
  simp only [B_list]
  repeat rw [if_neg (hne _ _ _ (by decide))]
  rfl
theorem zzLiterals_from (l : List UInt8) (hl : l.length < 140737488355328) (hp : ∀ b ∈ l, b.toNat ≤ 63) :
    ∀ (d i : Nat), l.length - i = d → i ≤ l.length → Ev (fun k => gronx_zzLiterals.l0 k (B l) ((l.take i).map fun b => (b.toNat : Int)) (i : Int)) (B l) := by
  intro d
  induction d with
  | zero =>
    intro i hd' hi
    refine Ev.done fun k => ?_
    simp only [gronx_zzLiterals.l0, B_size]
    rw [if_neg (by omega), strOfNums_B, List.take_of_length_le (by omega)]
  | succ d ih =>
    intro i hd' hi
    have hlt : i < l.length := by omega
    have hbt := bt_B_at l i hlt
    have htake : (l.take (i + 1)).map (fun b => (b.toNat : Int)) = (l.take i).map (fun b => (b.toNat : Int)) ++ [(l[i].toNat : Int)] := by
      rw [List.take_succ_eq_append_getElem hlt, List.map_append]; rfl
    refine Ev.step (f := fun k => gronx_zzLiterals.l0 k (B l) ((l.take (i + 1)).map fun b => (b.toNat : Int)) ((i + 1 : Nat) : Int)) (fun k => ?_) (ih (i + 1) (by omega) (by omega))
    simp only [gronx_zzLiterals.l0, B_size]
    rw [if_pos (by omega), wrap64_id (i := (i : Int) + 3) (by omega) (by omega)]
    by_cases h3 : i + 3 ≤ l.length
    · rw [if_pos (by omega), if_pos (by omega), if_pos (by omega), B_cut, literal_no _ (fun b hb => hp b (List.mem_of_mem_drop (List.mem_of_mem_take hb)))]
      simp only [Option.bind_some]
      rw [B_list, if_pos rfl, if_pos (by simp; omega), wrap64_nat i (by omega), htake, hbt]
    · rw [if_neg (by omega), if_pos (by omega), if_pos (by simp; omega), wrap64_nat i (by omega), htake, hbt]
theorem zzLiterals_ev (l : List UInt8) (hl : l.length < 140737488355328) (hp : ∀ b ∈ l, b.toNat ≤ 63) : Ev (fun k => gronx_zzLiterals.f k (B l)) (B l) := by
  have := zzLiterals_from l hl hp l.length 0 (by simp) (by omega)
  simpa [gronx_zzLiterals.f] using this

/-- Do four digits stand side by side, n of them ahead? -/
def hasYr : List UInt8 → Nat → Bool
  | [], _ => false
  | b :: t, n => if b.toNat < 48 ∨ 57 < b.toNat then hasYr t 0 else if n + 1 = 4 then true else hasYr t (n + 1)
theorem zzHasYear_from (l : List UInt8) (hl : l.length < 4611686018427387904) :
    ∀ (rest : List UInt8) (i n : Nat), l.drop i = rest → i ≤ l.length → n < 4 → Ev (fun k => gronx_zzHasYear.l0 k (B l) (n : Int) (i : Int)) (hasYr rest n) := by
  intro rest
  induction rest with
  | nil =>
    intro i n hi hil hn
    have hlen : l.length ≤ i := List.drop_eq_nil_iff.1 hi
    refine Ev.done fun k => ?_
    simp only [gronx_zzHasYear.l0, B_size]
    rw [if_neg (by omega)]
    rfl
  | cons b t ih =>
    intro i n hi hil hn
    have hlt : i < l.length := by
      rcases Nat.lt_or_ge i l.length with h | h
      · exact h
      · rw [List.drop_eq_nil_of_le h] at hi; cases hi
    have hbi : l[i] = b := by
      have := List.drop_eq_getElem_cons hlt
      rw [hi] at this
      exact (List.cons.inj this).1.symm
    have ht : l.drop (i + 1) = t := by rw [← List.drop_drop, hi]; rfl
    have hbt := bt_B_at l i hlt
    rw [hbi] at hbt
    unfold hasYr
    by_cases h1 : b.toNat < 48 ∨ 57 < b.toNat
    · rw [if_pos h1]
      refine Ev.step (f := fun k => gronx_zzHasYear.j1 k (B l) (n : Int) (i : Int) true) (fun k => ?_) (Ev.step (f := fun k => gronx_zzHasYear.l0 k (B l) ((0 : Nat) : Int) ((i + 1 : Nat) : Int)) (fun k => ?_) (ih (i + 1) 0 ht (by omega) (by omega)))
      · simp only [gronx_zzHasYear.l0, B_size]
        rw [if_pos (by omega), if_pos (by omega), hbt]
        by_cases h2 : (b.toNat : Int) < 48
        · rw [if_pos h2]
        · rw [if_neg h2, show decide ((b.toNat : Int) > 57) = true from decide_eq_true (by omega)]
      · simp only [gronx_zzHasYear.j1]
        rw [if_pos trivial, wrap64_nat i (by omega)]
        rfl
    · rw [if_neg h1]
      by_cases h2 : n + 1 = 4
      · rw [if_pos h2]
        refine Ev.step (f := fun k => gronx_zzHasYear.j1 k (B l) (n : Int) (i : Int) false) (fun k => ?_) (Ev.done fun k => ?_)
        · simp only [gronx_zzHasYear.l0, B_size]
          rw [if_pos (by omega), if_pos (by omega), hbt, if_neg (by omega), show decide ((b.toNat : Int) > 57) = false from decide_eq_false (by omega)]
        · simp only [gronx_zzHasYear.j1]
          rw [if_neg (by simp), wrap64_nat n (by omega), if_pos (by omega)]
      · rw [if_neg h2]
        refine Ev.step (f := fun k => gronx_zzHasYear.j1 k (B l) (n : Int) (i : Int) false) (fun k => ?_) (Ev.step (f := fun k => gronx_zzHasYear.l0 k (B l) ((n + 1 : Nat) : Int) ((i + 1 : Nat) : Int)) (fun k => ?_) (ih (i + 1) (n + 1) ht (by omega) (by omega)))
        · simp only [gronx_zzHasYear.l0, B_size]
          rw [if_pos (by omega), if_pos (by omega), hbt, if_neg (by omega), show decide ((b.toNat : Int) > 57) = false from decide_eq_false (by omega)]
        · simp only [gronx_zzHasYear.j1]
          rw [if_neg (by simp), wrap64_nat n (by omega), if_neg (by omega), wrap64_nat i (by omega)]
theorem zzHasYear_ev (l : List UInt8) (hl : l.length < 4611686018427387904) : Ev (fun k => gronx_zzHasYear.f k (B l)) (hasYr l 0) := by
  have := zzHasYear_from l hl l 0 0 rfl (Nat.zero_le _) (by omega)
  simpa [gronx_zzHasYear.f] using this

theorem toLower_plain (l : List UInt8) (hl : l.length ≤ 140737488355328) (hp : ∀ b ∈ l, b.toNat ≤ 63) : strings_ToLower.f (B l) = some (B l) := by
  unfold strings_ToLower.f
  rw [B_size, if_pos hl, if_pos (by unfold isAscii; rw [B_data, List.all_eq_true]; intro b hb; exact decide_eq_true (by have := hp b hb; omega))]
  rw [B_data]
  have : Lib.toLowerA l = l := by
    unfold Lib.toLowerA
    conv => rhs; rw [← List.map_id l]
    apply List.map_congr_left
    intro b hb
    have h := hp b hb
    have hu : Lib.isUpperB b = false := by
      unfold Lib.isUpperB
      rw [Bool.and_eq_false_iff]
      exact Or.inl (decide_eq_false (by rw [UInt8.le_iff_toNat_le]; show ¬ 65 ≤ b.toNat; omega))
    simp [Lib.lowerB, hu]
  rw [this]
  rfl
theorem toUpper_plain (l : List UInt8) (hl : l.length ≤ 140737488355328) (hp : ∀ b ∈ l, b.toNat ≤ 63) : strings_ToUpper.f (B l) = some (B l) := by
  unfold strings_ToUpper.f
  rw [B_size, if_pos hl, if_pos (by unfold isAscii; rw [B_data, List.all_eq_true]; intro b hb; exact decide_eq_true (by have := hp b hb; omega))]
  rw [B_data]
  have : Lib.toUpperA l = l := by
    unfold Lib.toUpperA
    conv => rhs; rw [← List.map_id l]
    apply List.map_congr_left
    intro b hb
    have h := hp b hb
    have hu : Lib.isLowerB b = false := by
      unfold Lib.isLowerB
      rw [Bool.and_eq_false_iff]
      exact Or.inl (decide_eq_false (by rw [UInt8.le_iff_toNat_le]; show ¬ 97 ≤ b.toNat; omega))
    simp [Lib.upperB, hu]
  rw [this]
  rfl
theorem expression_no (l : List UInt8) (hp : ∀ b ∈ l, b.toNat ≤ 63) : gronx_expression.f (B l) = some (B [], false) := by
  have hne : ∀ (m : List UInt8), ¬ l = 64 :: m := by
    intro m e
    have := hp 64 (by simp [e])
    simp at this
  unfold gronx_expression.f
  simp only [B_list]
  repeat rw [if_neg (hne _)]
  rfl
end Go.Proofs.YthndpmjmnglhfaaDoor.Core
namespace Go.Proofs.YthndpmjmnglhfaaDoor.Core
open Go.RowKit Go.Proofs.YthndpmjmnglhfaaDoorW.PrintWords

abbrev It := S41
def lowI (i : Nat) : Int := if i = 3 then 1 else if i = 4 then 1 else 0
def highI (i : Nat) : Int := [59, 59, 23, 31, 12, 6].getD i 0
theorem low_some (i : Nat) : spec_Low.f (i : Int) = some (lowI i) := by
  unfold spec_Low.f lowI
  by_cases h : i = 3
  · subst h; rfl
  · by_cases h4 : i = 4
    · subst h4; rfl
    · rw [if_neg (by omega), if_neg (by omega), if_neg h, if_neg h4]
theorem high_some (i : Nat) (h : i < 6) : spec_High.f (i : Int) = some (highI i) := by
  unfold spec_High.f highI
  rw [if_pos (by omega), if_pos (by omega), rd_at]
theorem highI_le (i : Nat) : highI i ≤ 59 := by
  unfold highI
  match i with
  | 0 | 1 | 2 | 3 | 4 | 5 => decide
  | n + 6 => simp
theorem lowI_ge (i : Nat) : 0 ≤ lowI i := by
  unfold lowI
  split
  · omega
  · split <;> omega

def goodItem (i : Nat) (x : It) : Bool := decide (1 ≤ x.f3) && decide (x.f3 ≤ 60) && (x.f0 || (decide (lowI i ≤ x.f1) && decide (x.f2 ≤ highI i) && decide (x.f1 ≤ x.f2)))
def goodF (i : Nat) (l : List It) : Bool := l.all (goodItem i) && decide (1 ≤ l.length) && decide (l.length ≤ 6)
theorem rdI_at (l : List It) (j : Nat) (h : j < l.length) : rd_T41 l (j : Int) = l[j] := by
  simp [rd_T41, h]
theorem good_from (i : Nat) (hi : i < 6) (l : List It) (hl : l.length < 4611686018427387904) :
    ∀ (rest : List It) (j : Nat), l.drop j = rest → j ≤ l.length →
      Ev (fun k => spec_Good.l0 k (i : Int) l l (l.length : Int) (j : Int)) (rest.all (goodItem i) && decide (1 ≤ l.length) && decide (l.length ≤ 6)) := by
  intro rest
  induction rest with
  | nil =>
    intro j hj hjl
    have hlen : l.length ≤ j := List.drop_eq_nil_iff.1 hj
    refine Ev.done fun k => ?_
    simp only [spec_Good.l0]
    rw [if_neg (by omega)]
    by_cases h1 : 1 ≤ l.length
    · rw [if_pos (by omega)]
      simp [h1]
      omega
    · rw [if_neg (by omega)]
      simp [h1]
  | cons x t ih =>
    intro j hj hjl
    have hlt : j < l.length := by
      rcases Nat.lt_or_ge j l.length with h | h
      · exact h
      · rw [List.drop_eq_nil_of_le h] at hj; cases hj
    have hx : l[j] = x := by
      have := List.drop_eq_getElem_cons hlt
      rw [hj] at this
      exact (List.cons.inj this).1.symm
    have ht : l.drop (j + 1) = t := by rw [← List.drop_drop, hj]; rfl
    have hrd := rdI_at l j hlt
    rw [hx] at hrd
    have hrec := ih (j + 1) ht (by omega)
    by_cases hs : x.f3 < 1 ∨ 60 < x.f3
    · refine Ev.step (f := fun k => spec_Good.j1 k (i : Int) l l (l.length : Int) (j : Int) true x.f0 x.f1 x.f2 x.f3) (fun k => ?_) (Ev.done fun k => ?_)
      · simp only [spec_Good.l0, hrd]
        rw [if_pos (by omega), if_pos (by omega), if_pos (by omega)]
        by_cases h1 : x.f3 < 1
        · rw [if_pos h1]
        · rw [if_neg h1, show decide (x.f3 > 60) = true from decide_eq_true (by omega)]
      · simp only [spec_Good.j1]
        rw [if_pos trivial]
        have : goodItem i x = false := by
          unfold goodItem
          rcases hs with h | h
          · rw [show decide (1 ≤ x.f3) = false from decide_eq_false (by omega)]; rfl
          · rw [show decide (x.f3 ≤ 60) = false from decide_eq_false (by omega)]; simp
        simp [this]
    · refine Ev.step (f := fun k => spec_Good.j1 k (i : Int) l l (l.length : Int) (j : Int) false x.f0 x.f1 x.f2 x.f3) (fun k => ?_) ?_
      · simp only [spec_Good.l0, hrd]
        rw [if_pos (by omega), if_pos (by omega), if_pos (by omega), if_neg (by omega), show decide (x.f3 > 60) = false from decide_eq_false (by omega)]
      · have h1 : decide (1 ≤ x.f3) = true := decide_eq_true (by omega)
        have h2 : decide (x.f3 ≤ 60) = true := decide_eq_true (by omega)
        have hgo : ∀ b : Bool, goodItem i x = true → Ev (fun k => spec_Good.l0 k (i : Int) l l (l.length : Int) ((j + 1 : Nat) : Int)) ((x :: t).all (goodItem i) && decide (1 ≤ l.length) && decide (l.length ≤ 6)) := by
          intro _ hg
          rw [List.all_cons, hg, Bool.true_and]
          exact hrec
        by_cases h0 : x.f0 = true
        · refine Ev.step (f := fun k => spec_Good.l0 k (i : Int) l l (l.length : Int) ((j + 1 : Nat) : Int)) (fun k => ?_) (hgo true (by simp [goodItem, h1, h2, h0]))
          simp only [spec_Good.j1]
          rw [if_neg (by simp), if_pos h0, wrap64_nat j (by omega)]
        · by_cases g1 : x.f1 < lowI i
          · refine Ev.done fun k => ?_
            simp only [spec_Good.j1, low_some, Option.bind_some]
            rw [if_neg (by simp), if_neg h0, if_pos g1]
            have : goodItem i x = false := by simp [goodItem, h1, h2, h0]; omega
            simp [this]
          · by_cases g2 : x.f2 > highI i
            · refine Ev.done fun k => ?_
              simp only [spec_Good.j1, low_some, high_some i hi, Option.bind_some]
              rw [if_neg (by simp), if_neg h0, if_neg g1, if_pos g2]
              have : goodItem i x = false := by simp [goodItem, h1, h2, h0]; omega
              simp [this]
            · by_cases g3 : x.f1 > x.f2
              · refine Ev.done fun k => ?_
                simp only [spec_Good.j1, low_some, high_some i hi, Option.bind_some]
                rw [if_neg (by simp), if_neg h0, if_neg g1, if_neg g2, if_pos g3]
                have : goodItem i x = false := by simp [goodItem, h1, h2, h0]; omega
                simp [this]
              · refine Ev.step (f := fun k => spec_Good.l0 k (i : Int) l l (l.length : Int) ((j + 1 : Nat) : Int)) (fun k => ?_) (hgo true (by simp [goodItem, h1, h2, h0]; omega))
                simp only [spec_Good.j1, low_some, high_some i hi, Option.bind_some]
                rw [if_neg (by simp), if_neg h0, if_neg g1, if_neg g2, if_neg g3, wrap64_nat j (by omega)]
theorem good_ev (i : Nat) (hi : i < 6) (l : List It) (hl : l.length < 4611686018427387904) : Ev (fun k => spec_Good.f k (i : Int) l) (goodF i l) :=
  good_from i hi l hl l 0 rfl (Nat.zero_le _)

def starF (l : List It) : Bool := match l with | [x] => x.f0 && x.f3 == 1 | _ => false
theorem star_some (l : List It) : spec_Star.f l = some (starF l) := by
  unfold spec_Star.f starF
  match l with
  | [] => rfl
  | [x] =>
    rw [if_pos (by simp), if_pos (by simp)]
    have : rd_T41 [x] 0 = x := rfl
    rw [this]
    by_cases h : x.f0 = true
    · rw [if_pos h]; simp [h]
    · rw [if_neg h]; simp [h]
  | x :: y :: t => rw [if_neg (by simp; omega)]
def zeroF (l : List It) : Bool := match l with | [x] => !x.f0 && x.f1 == 0 && x.f2 == 0 && x.f3 == 1 | _ => false
/-- What ExprGood asks behind its six parts. -/
def restE (f0 f3 f4 f5 : List It) (secs : Bool) : Bool := (secs || zeroF f0) && (starF f3 || starF f5) && (starF f4 || f3.all fun x => x.f0 || decide (x.f1 ≤ 28))
def goodE (Fs : List (List It)) (secs : Bool) : Bool := match Fs with
  | [f0, f1, f2, f3, f4, f5] => goodF 0 f0 && (goodF 1 f1 && (goodF 2 f2 && (goodF 3 f3 && (goodF 4 f4 && (goodF 5 f5 && restE f0 f3 f4 f5 secs)))))
  | _ => false
theorem exprGood_l1 (l : List It) (hl : l.length < 4611686018427387904) :
    ∀ (rest : List It) (j : Nat), l.drop j = rest → j ≤ l.length → Ev (fun k => spec_ExprGood.l1 k l (l.length : Int) (j : Int)) (rest.all fun x => x.f0 || decide (x.f1 ≤ 28)) := by
  intro rest
  induction rest with
  | nil =>
    intro j hj hjl
    have hlen : l.length ≤ j := List.drop_eq_nil_iff.1 hj
    refine Ev.done fun k => ?_
    simp only [spec_ExprGood.l1]
    rw [if_neg (by omega)]
    rfl
  | cons x t ih =>
    intro j hj hjl
    have hlt : j < l.length := by
      rcases Nat.lt_or_ge j l.length with h | h
      · exact h
      · rw [List.drop_eq_nil_of_le h] at hj; cases hj
    have hx : l[j] = x := by
      have := List.drop_eq_getElem_cons hlt
      rw [hj] at this
      exact (List.cons.inj this).1.symm
    have ht : l.drop (j + 1) = t := by rw [← List.drop_drop, hj]; rfl
    have hrd := rdI_at l j hlt
    rw [hx] at hrd
    have hrec := ih (j + 1) ht (by omega)
    rw [List.all_cons]
    by_cases h0 : x.f0 = true
    · rw [h0, Bool.true_or, Bool.true_and]
      refine Ev.step (f := fun k => spec_ExprGood.l1 k l (l.length : Int) ((j + 1 : Nat) : Int)) (fun k => ?_) hrec
      simp only [spec_ExprGood.l1, hrd]
      rw [if_pos (by omega), if_pos (by omega), if_pos (by omega), if_pos h0, wrap64_nat j (by omega)]
    · rw [show x.f0 = false from by simpa using h0, Bool.false_or]
      by_cases h1 : x.f1 > 28
      · rw [show decide (x.f1 ≤ 28) = false from decide_eq_false (by omega), Bool.false_and]
        refine Ev.done fun k => ?_
        simp only [spec_ExprGood.l1, hrd]
        rw [if_pos (by omega), if_pos (by omega), if_pos (by omega), if_neg h0, if_pos h1]
      · rw [show decide (x.f1 ≤ 28) = true from decide_eq_true (by omega), Bool.true_and]
        refine Ev.step (f := fun k => spec_ExprGood.l1 k l (l.length : Int) ((j + 1 : Nat) : Int)) (fun k => ?_) hrec
        simp only [spec_ExprGood.l1, hrd]
        rw [if_pos (by omega), if_pos (by omega), if_pos (by omega), if_neg h0, if_neg h1, wrap64_nat j (by omega)]
section
variable (f0 f1 f2 f3 f4 f5 : List It) (secs : Bool)
theorem exprGood_j2 (h3 : f3.length < 4611686018427387904) (b : Bool) :
    Ev (fun k => spec_ExprGood.j2 k b [f0, f1, f2, f3, f4, f5] secs) (!b && (starF f4 || f3.all fun x => x.f0 || decide (x.f1 ≤ 28))) := by
  have e4 : rd_L5 [f0, f1, f2, f3, f4, f5] 4 = f4 := rfl
  have e3 : rd_L5 [f0, f1, f2, f3, f4, f5] 3 = f3 := rfl
  cases b with
  | true =>
    refine Ev.done fun k => ?_
    simp only [spec_ExprGood.j2]
    rw [if_pos trivial]
    rfl
  | false =>
    cases h : starF f4 with
    | true =>
      refine Ev.done fun k => ?_
      simp only [spec_ExprGood.j2, e4, star_some, Option.bind_some, h]
      rw [if_neg (by simp), if_pos (by simp), if_pos trivial]
      rfl
    | false =>
      refine Ev.step (f := fun k => spec_ExprGood.l1 k f3 (f3.length : Int) ((0 : Nat) : Int)) (fun k => ?_) (Ev.eq _ (exprGood_l1 f3 h3 f3 0 rfl (Nat.zero_le _)) (by simp))
      simp only [spec_ExprGood.j2, e4, e3, star_some, Option.bind_some, h]
      rw [if_neg (by simp), if_pos (by simp), if_neg (by simp), if_pos (by simp)]
      rfl
theorem exprGood_j1 (h3 : f3.length < 4611686018427387904) (b : Bool) :
    Ev (fun k => spec_ExprGood.j1 k b [f0, f1, f2, f3, f4, f5] secs) (!b && (starF f3 || starF f5) && (starF f4 || f3.all fun x => x.f0 || decide (x.f1 ≤ 28))) := by
  have e3 : rd_L5 [f0, f1, f2, f3, f4, f5] 3 = f3 := rfl
  have e5 : rd_L5 [f0, f1, f2, f3, f4, f5] 5 = f5 := rfl
  cases b with
  | true =>
    refine Ev.done fun k => ?_
    simp only [spec_ExprGood.j1]
    rw [if_pos trivial]
    rfl
  | false =>
    cases h : starF f3 with
    | true =>
      refine Ev.step (f := fun k => spec_ExprGood.j2 k false [f0, f1, f2, f3, f4, f5] secs) (fun k => ?_) (exprGood_j2 f0 f1 f2 f3 f4 f5 secs h3 false)
      simp only [spec_ExprGood.j1, e3, star_some, Option.bind_some, h]
      rw [if_neg (by simp), if_pos (by simp), if_pos trivial]
    | false =>
      refine Ev.step (f := fun k => spec_ExprGood.j2 k (!starF f5) [f0, f1, f2, f3, f4, f5] secs) (fun k => ?_) (Ev.eq _ (exprGood_j2 f0 f1 f2 f3 f4 f5 secs h3 (!starF f5)) (by simp))
      simp only [spec_ExprGood.j1, e3, e5, star_some, Option.bind_some, h]
      rw [if_neg (by simp), if_pos (by simp), if_neg (by simp), if_pos (by simp)]
theorem exprGood_rest (h3 : f3.length < 4611686018427387904) :
    Ev (fun k => spec_ExprGood.l0 k [f0, f1, f2, f3, f4, f5] 6 6 [f0, f1, f2, f3, f4, f5] secs) (restE f0 f3 f4 f5 secs) := by
  have e0 : rd_L5 [f0, f1, f2, f3, f4, f5] 0 = f0 := rfl
  unfold restE
  cases secs with
  | true =>
    refine Ev.step (f := fun k => spec_ExprGood.j1 k false [f0, f1, f2, f3, f4, f5] true) (fun k => ?_) (exprGood_j1 f0 f1 f2 f3 f4 f5 true h3 false)
    simp only [spec_ExprGood.l0]
    rw [if_neg (by simp), if_pos trivial]
  | false =>
    refine Ev.step (f := fun k => spec_ExprGood.j1 k (!zeroF f0) [f0, f1, f2, f3, f4, f5] false) (fun k => ?_) (Ev.eq _ (exprGood_j1 f0 f1 f2 f3 f4 f5 false h3 (!zeroF f0)) (by simp))
    simp only [spec_ExprGood.l0, e0]
    rw [if_neg (by simp), if_neg (by simp), if_pos (by simp)]
    match f0 with
    | [] => rfl
    | [x] =>
      rw [if_pos (by simp), if_pos (by simp)]
      have : rd_T41 [x] 0 = x := rfl
      rw [this]
      congr 1
      simp [zeroF, Bool.not_and, Bool.or_assoc]
    | x :: y :: t => rw [if_neg (by simp; omega)]; rfl
theorem exprGood_six (h : ∀ l ∈ [f0, f1, f2, f3, f4, f5], l.length < 4611686018427387904) : Ev (fun k => spec_ExprGood.f k [f0, f1, f2, f3, f4, f5] secs) (goodE [f0, f1, f2, f3, f4, f5] secs) := by
  have step : ∀ (j : Nat) (l : List It) (b : Bool), j < 6 → l.length < 4611686018427387904 → rd_L5 [f0, f1, f2, f3, f4, f5] (j : Int) = l →
      Ev (fun k => spec_ExprGood.l0 k [f0, f1, f2, f3, f4, f5] 6 ((j + 1 : Nat) : Int) [f0, f1, f2, f3, f4, f5] secs) b →
      Ev (fun k => spec_ExprGood.l0 k [f0, f1, f2, f3, f4, f5] 6 (j : Int) [f0, f1, f2, f3, f4, f5] secs) (goodF j l && b) := by
    intro j l b hj hl hrd hrec
    refine Ev.step (f := fun k => (spec_Good.f k (j : Int) l).bind fun t => if t = true then spec_ExprGood.l0 k [f0, f1, f2, f3, f4, f5] 6 ((j + 1 : Nat) : Int) [f0, f1, f2, f3, f4, f5] secs else some false) (fun k => ?_) (Ev.bind (good_ev j hj l hl) ?_)
    · simp only [spec_ExprGood.l0, hrd]
      rw [if_pos (by omega), if_pos (by omega), if_pos (by simp; omega), wrap64_nat j (by omega)]
    · cases goodF j l with
      | true => exact Ev.congr (f := fun k => spec_ExprGood.l0 k [f0, f1, f2, f3, f4, f5] 6 ((j + 1 : Nat) : Int) [f0, f1, f2, f3, f4, f5] secs) (fun k => if_pos rfl) (by simpa using hrec)
      | false => exact Ev.const (by simp)
  unfold goodE
  refine Ev.congr (f := fun k => spec_ExprGood.l0 k [f0, f1, f2, f3, f4, f5] 6 ((0 : Nat) : Int) [f0, f1, f2, f3, f4, f5] secs) (fun k => by unfold spec_ExprGood.f; rw [if_pos (by simp)]; rfl) ?_
  exact step 0 f0 _ (by omega) (h _ (by simp)) rfl (step 1 f1 _ (by omega) (h _ (by simp)) rfl (step 2 f2 _ (by omega) (h _ (by simp)) rfl (step 3 f3 _ (by omega) (h _ (by simp)) rfl (step 4 f4 _ (by omega) (h _ (by simp)) rfl (step 5 f5 _ (by omega) (h _ (by simp)) rfl
    (exprGood_rest f0 f1 f2 f3 f4 f5 secs (h _ (by simp))))))))
end
theorem exprGood_ev (Fs : List (List It)) (secs : Bool) (h : ∀ l ∈ Fs, l.length < 4611686018427387904) : Ev (fun k => spec_ExprGood.f k Fs secs) (goodE Fs secs) := by
  by_cases h6 : Fs.length = 6
  · match Fs, h6 with
    | [f0, f1, f2, f3, f4, f5], _ => exact exprGood_six f0 f1 f2 f3 f4 f5 secs h
  · have : goodE Fs secs = false := by
      match Fs with
      | [] | [_] | [_, _] | [_, _, _] | [_, _, _, _] | [_, _, _, _, _] => rfl
      | [_, _, _, _, _, _] => simp at h6
      | _ :: _ :: _ :: _ :: _ :: _ :: _ :: _ => rfl
    rw [this]
    exact Ev.congr (f := fun _ => some false) (fun k => by unfold spec_ExprGood.f; rw [if_neg (by omega)]) (Ev.const rfl)
end Go.Proofs.YthndpmjmnglhfaaDoor.Core
namespace Go.Proofs.YthndpmjmnglhfaaDoor.Core
open Go.RowKit Go.Proofs.YthndpmjmnglhfaaDoorW.PrintWords

def digits10 : List UInt8 := [48, 49, 50, 51, 52, 53, 54, 55, 56, 57]
theorem digit_cut (n : Nat) (h : n < 10) : (B digits10).extract n (n + 1) = B [UInt8.ofNat (48 + n)] := by
  rw [B_cut]
  have : ∀ n, n < 10 → (digits10.drop n).take (n + 1 - n) = [UInt8.ofNat (48 + n)] := by decide
  rw [this n h]
theorem decimal_ev (m : Nat) : ∀ n : Nat, n < 10 ^ (m + 1) → m < 17 → Ev (fun k => spec_Decimal.f k (n : Int)) (B (decN n)) := by
  have base : ∀ n : Nat, n < 10 → Ev (fun k => spec_Decimal.f k (n : Int)) (B (decN n)) := by
    intro n h
    refine Ev.done fun k => ?_
    simp only [spec_Decimal.f]
    rw [if_pos (by omega), if_pos (by omega), wrap64_id (by omega) (by omega), if_pos (by omega), if_pos (by omega), decN_lt n h]
    have := digit_cut n h
    rw [show ((n : Int)).toNat = n by omega, show ((n : Int) + 1).toNat = n + 1 by omega]
    exact congrArg some this
  induction m with
  | zero => intro n h _; exact base n (by simpa using h)
  | succ m ih =>
    intro n h hm
    by_cases h10 : n < 10
    · exact base n h10
    · have hq : n / 10 < 10 ^ (m + 1) := by rw [Nat.div_lt_iff_lt_mul (by omega)]; rw [Nat.pow_succ] at h; exact h
      have hn : n < 10 ^ 18 := Nat.lt_of_lt_of_le h (Nat.pow_le_pow_right (by omega) (by omega))
      have hn' : n < 1000000000000000000 := by simpa using hn
      have e1 : wrap64 (Int.tdiv (n : Int) 10) = ((n / 10 : Nat) : Int) := by
        rw [Int.tdiv_eq_ediv_of_nonneg (by omega), wrap64_id (by omega) (by omega)]; rfl
      have e2 : Int.tmod (n : Int) 10 = ((n % 10 : Nat) : Int) := by rw [Int.tmod_eq_emod_of_nonneg (by omega)]; rfl
      have l1 := decN_length (n / 10) m hq
      refine Ev.step (f := fun k => (spec_Decimal.f k ((n / 10 : Nat) : Int)).bind fun t => (spec_Decimal.f k ((n % 10 : Nat) : Int)).bind fun u => if t.size + u.size ≤ 9223372036854775807 then some (t ++ u) else none) (fun k => ?_) (Ev.bind (ih (n / 10) hq (by omega)) (Ev.bind (base (n % 10) (by omega)) (Ev.const ?_)))
      · simp only [spec_Decimal.f]
        rw [if_neg (by omega), e1, e2]
      · rw [B_size, B_size, decN_lt (n % 10) (by omega), if_pos (by simp; omega), B_app, decN_ge n h10]
theorem dec_ev (n : Int) (h0 : 0 ≤ n) (h : n < 100000) : Ev (fun k => spec_Decimal.f k n) (B (decN n.toNat)) := by
  have := decimal_ev 4 n.toNat (by simp; omega) (by omega)
  rwa [show ((n.toNat : Nat) : Int) = n by omega] at this
theorem decN_two (n : Nat) (h : n < 100) : (decN n).length ≤ 2 := decN_length n 1 (by simpa using h)

def stepL (s : Int) : List UInt8 := if 1 < s then 47 :: decN s.toNat else []
def itemL (x : It) : List UInt8 := if x.f0 then 42 :: stepL x.f3 else decN x.f1.toNat ++ ((if x.f1 < x.f2 ∨ 1 < x.f3 then 45 :: decN x.f2.toNat else []) ++ stepL x.f3)
theorem goodItem_spec {i : Nat} {x : It} (h : goodItem i x = true) : 1 ≤ x.f3 ∧ x.f3 ≤ 60 ∧ (x.f0 = false → 0 ≤ x.f1 ∧ x.f2 ≤ 59 ∧ x.f1 ≤ x.f2 ∧ lowI i ≤ x.f1 ∧ x.f2 ≤ highI i) := by
  unfold goodItem at h
  simp only [Bool.and_eq_true, decide_eq_true_eq, Bool.or_eq_true] at h
  refine ⟨h.1.1, h.1.2, fun h0 => ?_⟩
  have hl := lowI_ge i
  have hh := highI_le i
  rcases h.2 with h2 | h2
  · rw [h0] at h2; cases h2
  · exact ⟨by omega, by omega, h2.2, h2.1.1, h2.1.2⟩
theorem stepL_length (s : Int) (h : s ≤ 60) : (stepL s).length ≤ 3 := by
  unfold stepL
  split
  · have := decN_two s.toNat (by omega); simp; omega
  · simp
theorem item_ev {i : Nat} {x : It} (h : goodItem i x = true) : Ev (fun k => spec_ItemText.f k x.f0 x.f1 x.f2 x.f3) (B (itemL x)) := by
  obtain ⟨s1, s2, hr⟩ := goodItem_spec h
  have hst : ∀ (p : List UInt8), p.length ≤ 10 → ∀ f : Bool, Ev (fun k => if x.f3 > 1 then ((spec_Decimal.f k x.f3).bind fun t => (if 1 + t.size ≤ 9223372036854775807 then (if (B p).size + ((⟨#[47]⟩ : ByteArray) ++ t).size ≤ 9223372036854775807 then (some (B p ++ ((⟨#[47]⟩ : ByteArray) ++ t))) else (none)) else (none))) else some (B p)) (B (p ++ stepL x.f3)) := by
    intro p hp _
    unfold stepL
    by_cases h3 : 1 < x.f3
    · rw [if_pos h3]
      refine Ev.congr (f := fun k => (spec_Decimal.f k x.f3).bind fun t => (if 1 + t.size ≤ 9223372036854775807 then (if (B p).size + ((⟨#[47]⟩ : ByteArray) ++ t).size ≤ 9223372036854775807 then (some (B p ++ ((⟨#[47]⟩ : ByteArray) ++ t))) else (none)) else (none))) (fun k => if_pos h3) (Ev.bind (dec_ev x.f3 (by omega) (by omega)) (Ev.const ?_))
      have := decN_two x.f3.toNat (by omega)
      rw [show (⟨#[47]⟩ : ByteArray) = B [47] from rfl, B_app, B_size, B_size, B_size, if_pos (by omega), if_pos (by simp; omega), B_app]
      rfl
    · rw [if_neg h3]
      exact Ev.congr (f := fun _ => some (B p)) (fun k => if_neg (by omega)) (Ev.const (by simp))
  unfold itemL
  cases h0 : x.f0 with
  | true =>
    rw [if_pos rfl]
    refine Ev.congr (f := fun k => if x.f3 > 1 then ((spec_Decimal.f k x.f3).bind fun t => (if 1 + t.size ≤ 9223372036854775807 then (if (B [42]).size + ((⟨#[47]⟩ : ByteArray) ++ t).size ≤ 9223372036854775807 then (some (B [42] ++ ((⟨#[47]⟩ : ByteArray) ++ t))) else (none)) else (none))) else some (B [42])) (fun k => ?_) (hst [42] (by simp) true)
    unfold spec_ItemText.f
    rw [if_pos rfl]
    rfl
  | false =>
    obtain ⟨r1, r2, r3, _, _⟩ := hr h0
    rw [if_neg (by simp)]
    have l1 := decN_two x.f1.toNat (by omega)
    have l2 := decN_two x.f2.toNat (by omega)
    have hj : ∀ b : Bool, b = decide (x.f1 < x.f2 ∨ 1 < x.f3) → Ev (fun k => spec_ItemText.j0 k (B (decN x.f1.toNat)) b false x.f1 x.f2 x.f3) (B (decN x.f1.toNat ++ ((if x.f1 < x.f2 ∨ 1 < x.f3 then 45 :: decN x.f2.toNat else []) ++ stepL x.f3))) := by
      intro b hb
      by_cases hc : x.f1 < x.f2 ∨ 1 < x.f3
      · rw [decide_eq_true hc] at hb
        subst hb
        rw [if_pos hc]
        refine Ev.step (f := fun k => (spec_Decimal.f k x.f2).bind fun t => if t = B (decN x.f2.toNat) then (if x.f3 > 1 then ((spec_Decimal.f k x.f3).bind fun t => (if 1 + t.size ≤ 9223372036854775807 then (if (B (decN x.f1.toNat ++ 45 :: decN x.f2.toNat)).size + ((⟨#[47]⟩ : ByteArray) ++ t).size ≤ 9223372036854775807 then (some (B (decN x.f1.toNat ++ 45 :: decN x.f2.toNat) ++ ((⟨#[47]⟩ : ByteArray) ++ t))) else (none)) else (none))) else some (B (decN x.f1.toNat ++ 45 :: decN x.f2.toNat))) else spec_ItemText.j0 (k + 1) (B (decN x.f1.toNat)) true false x.f1 x.f2 x.f3) (fun k => ?_) (Ev.bind (dec_ev x.f2 (by omega) (by omega)) ?_)
        · cases hg : spec_Decimal.f k x.f2 with
          | none => simp only [spec_ItemText.j0, hg]; rw [if_pos trivial]; rfl
          | some t =>
            simp only [Option.bind_some]
            by_cases ht : t = B (decN x.f2.toNat)
            · rw [if_pos ht]
              subst ht
              simp only [spec_ItemText.j0, hg, Option.bind_some]
              rw [if_pos trivial, show (⟨#[45]⟩ : ByteArray) = B [45] from rfl, B_app, if_pos (by rw [B_size]; omega), if_pos (by rw [B_size, B_size]; simp; omega), B_app]
              rfl
            · rw [if_neg ht]
        · refine Ev.congr (f := fun k => if x.f3 > 1 then ((spec_Decimal.f k x.f3).bind fun t => (if 1 + t.size ≤ 9223372036854775807 then (if (B (decN x.f1.toNat ++ 45 :: decN x.f2.toNat)).size + ((⟨#[47]⟩ : ByteArray) ++ t).size ≤ 9223372036854775807 then (some (B (decN x.f1.toNat ++ 45 :: decN x.f2.toNat) ++ ((⟨#[47]⟩ : ByteArray) ++ t))) else (none)) else (none))) else some (B (decN x.f1.toNat ++ 45 :: decN x.f2.toNat))) (fun k => if_pos rfl) ?_
          have := hst (decN x.f1.toNat ++ 45 :: decN x.f2.toNat) (by simp; omega) true
          rwa [List.append_assoc] at this
      · rw [decide_eq_false hc] at hb
        subst hb
        rw [if_neg hc]
        refine Ev.step (f := fun k => if x.f3 > 1 then ((spec_Decimal.f k x.f3).bind fun t => (if 1 + t.size ≤ 9223372036854775807 then (if (B (decN x.f1.toNat)).size + ((⟨#[47]⟩ : ByteArray) ++ t).size ≤ 9223372036854775807 then (some (B (decN x.f1.toNat) ++ ((⟨#[47]⟩ : ByteArray) ++ t))) else (none)) else (none))) else some (B (decN x.f1.toNat))) (fun k => ?_) (hst (decN x.f1.toNat) (by omega) true)
        simp only [spec_ItemText.j0]
        rw [if_neg (by simp)]
    refine Ev.congr (f := fun k => (spec_Decimal.f k x.f1).bind fun t => if x.f2 > x.f1 then spec_ItemText.j0 k t true false x.f1 x.f2 x.f3 else spec_ItemText.j0 k t (decide (x.f3 > 1)) false x.f1 x.f2 x.f3) (fun k => ?_) (Ev.bind (dec_ev x.f1 (by omega) (by omega)) ?_)
    · unfold spec_ItemText.f
      rw [if_neg (by simp)]
    · by_cases h12 : x.f1 < x.f2
      · exact Ev.congr (f := fun k => spec_ItemText.j0 k (B (decN x.f1.toNat)) true false x.f1 x.f2 x.f3) (fun k => if_pos h12) (hj true (by simp [h12]))
      · exact Ev.congr (f := fun k => spec_ItemText.j0 k (B (decN x.f1.toNat)) (decide (x.f3 > 1)) false x.f1 x.f2 x.f3) (fun k => if_neg h12) (hj _ (by simp [h12]))
theorem itemL_length {i : Nat} {x : It} (h : goodItem i x = true) : (itemL x).length ≤ 8 := by
  obtain ⟨s1, s2, hr⟩ := goodItem_spec h
  have hs := stepL_length x.f3 s2
  unfold itemL
  cases h0 : x.f0 with
  | true => simp; omega
  | false =>
    obtain ⟨r1, r2, r3, _, _⟩ := hr h0
    have l1 := decN_two x.f1.toNat (by omega)
    have l2 := decN_two x.f2.toNat (by omega)
    simp
    split <;> simp <;> omega

/-- Texts, a letter between them. -/
def joinL (c : UInt8) : List (List UInt8) → List UInt8
  | [] => []
  | [x] => x
  | x :: y :: t => x ++ c :: joinL c (y :: t)
theorem joinL_snoc (c : UInt8) (l : List (List UInt8)) (x : List UInt8) (h : l ≠ []) : joinL c (l ++ [x]) = joinL c l ++ c :: x := by
  induction l with
  | nil => exact absurd rfl h
  | cons a t ih =>
    cases t with
    | nil => rfl
    | cons b t =>
      rw [List.cons_append, List.cons_append, joinL, ← List.cons_append, ih (by simp), joinL]
      simp
theorem joinL_length (c : UInt8) (l : List (List UInt8)) (m : Nat) (h : ∀ x ∈ l, x.length ≤ m) : (joinL c l).length ≤ l.length * (m + 1) := by
  induction l with
  | nil => simp [joinL]
  | cons a t ih =>
    have ha := h a (by simp)
    cases t with
    | nil => simp [joinL]; omega
    | cons b t =>
      have := ih (fun x hx => h x (by simp [hx]))
      rw [joinL, List.length_append, List.length_cons, List.length_cons, Nat.succ_mul]
      omega
def fieldL (l : List It) : List UInt8 := joinL 44 (l.map itemL)
theorem goodF_spec {i : Nat} {l : List It} (h : goodF i l = true) : (∀ x ∈ l, goodItem i x = true) ∧ 1 ≤ l.length ∧ l.length ≤ 6 := by
  unfold goodF at h
  simp only [Bool.and_eq_true, decide_eq_true_eq, List.all_eq_true] at h
  exact ⟨h.1.1, h.1.2, h.2⟩
theorem fieldL_length {i : Nat} {l : List It} (h : goodF i l = true) : (fieldL l).length ≤ 54 := by
  obtain ⟨hg, h1, h6⟩ := goodF_spec h
  have := joinL_length 44 (l.map itemL) 8 (by intro z hz; obtain ⟨y, hy, rfl⟩ := List.mem_map.1 hz; exact itemL_length (hg y hy))
  rw [List.length_map] at this
  unfold fieldL
  omega
theorem field_from {i : Nat} (l : List It) (hg : ∀ x ∈ l, goodItem i x = true) (h6 : l.length ≤ 6) :
    ∀ (rest : List It) (j : Nat), l.drop j = rest → j ≤ l.length → Ev (fun k => spec_FieldText.l0 k (B (joinL 44 ((l.take j).map itemL))) l (l.length : Int) (j : Int)) (B (fieldL l)) := by
  intro rest
  induction rest with
  | nil =>
    intro j hj hjl
    have hlen : l.length ≤ j := List.drop_eq_nil_iff.1 hj
    refine Ev.done fun k => ?_
    simp only [spec_FieldText.l0]
    rw [if_neg (by omega), List.take_of_length_le hlen]
    rfl
  | cons x t ih =>
    intro j hj hjl
    have hlt : j < l.length := by
      rcases Nat.lt_or_ge j l.length with h | h
      · exact h
      · rw [List.drop_eq_nil_of_le h] at hj; cases hj
    have hx : l[j] = x := by
      have := List.drop_eq_getElem_cons hlt
      rw [hj] at this
      exact (List.cons.inj this).1.symm
    have ht : l.drop (j + 1) = t := by rw [← List.drop_drop, hj]; rfl
    have hrd := rdI_at l j hlt
    rw [hx] at hrd
    have hgx := hg x (by rw [← hx]; exact List.getElem_mem hlt)
    have hlx := itemL_length hgx
    have hbound : (joinL 44 ((l.take j).map itemL)).length ≤ 54 := by
      have := joinL_length 44 ((l.take j).map itemL) 8 (by intro z hz; obtain ⟨y, hy, rfl⟩ := List.mem_map.1 hz; exact itemL_length (hg y (List.mem_of_mem_take hy)))
      rw [List.length_map, List.length_take] at this
      omega
    have hrec := ih (j + 1) ht (by omega)
    rw [List.take_succ_eq_append_getElem hlt, List.map_append, hx, List.map_singleton] at hrec
    by_cases h0 : j = 0
    · subst h0
      refine Ev.step (f := fun k => (spec_ItemText.f k x.f0 x.f1 x.f2 x.f3).bind fun t => if t.size ≤ 9223372036854775807 then spec_FieldText.l0 k (B [] ++ t) l (l.length : Int) ((0 + 1 : Nat) : Int) else none) (fun k => ?_) (Ev.bind (item_ev hgx) ?_)
      · simp only [spec_FieldText.l0, hrd]
        rw [if_pos (by omega), if_pos (by omega), if_pos (by omega), if_neg (by omega), wrap64_nat 0 (by omega)]
        simp [joinL, B_size]
      · refine Ev.congr (f := fun k => spec_FieldText.l0 k (B (joinL 44 ([] ++ [itemL x]))) l (l.length : Int) ((0 + 1 : Nat) : Int)) (fun k => ?_) (by simpa using hrec)
        rw [if_pos (by rw [B_size]; omega), B_app]
        rfl
    · have hnn : (l.take j).map itemL ≠ [] := by
        intro e
        have := congrArg List.length e
        rw [List.length_map, List.length_take, List.length_nil] at this
        omega
      rw [joinL_snoc _ _ _ hnn] at hrec
      refine Ev.step (f := fun k => (spec_ItemText.f k x.f0 x.f1 x.f2 x.f3).bind fun t => if (B (joinL 44 ((l.take j).map itemL ++ [[]]))).size + t.size ≤ 9223372036854775807 then spec_FieldText.l0 k (B (joinL 44 ((l.take j).map itemL ++ [[]])) ++ t) l (l.length : Int) ((j + 1 : Nat) : Int) else none) (fun k => ?_) (Ev.bind (item_ev hgx) ?_)
      · simp only [spec_FieldText.l0, hrd]
        rw [if_pos (by omega), if_pos (by omega), if_pos (by omega), if_pos (by omega), wrap64_nat j (by omega), if_pos (by rw [B_size]; omega), show (⟨#[44]⟩ : ByteArray) = B [44] from rfl, B_app, joinL_snoc _ _ _ hnn]
      · refine Ev.congr (f := fun k => spec_FieldText.l0 k (B (joinL 44 ((l.take j).map itemL) ++ 44 :: itemL x)) l (l.length : Int) ((j + 1 : Nat) : Int)) (fun k => ?_) (by simpa using hrec)
        rw [joinL_snoc _ _ _ hnn, if_pos (by rw [B_size, B_size, List.length_append, List.length_singleton]; omega), B_app]
        simp
theorem field_ev {i : Nat} {l : List It} (h : goodF i l = true) : Ev (fun k => spec_FieldText.f k l) (B (fieldL l)) := by
  obtain ⟨hg, h1, h6⟩ := goodF_spec h
  exact field_from l hg h6 l 0 rfl (Nat.zero_le _)

theorem rdF_at (l : List (List It)) (j : Nat) (h : j < l.length) : rd_L5 l (j : Int) = l[j] := by
  simp [rd_L5, h]
theorem joinL_ne (c : UInt8) (l : List (List UInt8)) (h : l ≠ []) (hx : ∀ x ∈ l, x ≠ []) : joinL c l ≠ [] := by
  match l with
  | [] => exact absurd rfl h
  | [x] => exact hx x (by simp)
  | x :: y :: t => rw [joinL]; simp
theorem itemL_ne (x : It) : itemL x ≠ [] := by
  unfold itemL
  split
  · simp
  · have := decN_ne x.f1.toNat
    simp [this]
theorem fieldL_ne {i : Nat} {l : List It} (h : goodF i l = true) : fieldL l ≠ [] := by
  obtain ⟨hg, h1, h6⟩ := goodF_spec h
  refine joinL_ne _ _ ?_ ?_
  · intro e
    have := congrArg List.length e
    simp at this
    rw [this] at h1
    simp at h1
  · intro x hx
    obtain ⟨y, _, rfl⟩ := List.mem_map.1 hx
    exact itemL_ne y
/-- The parts that are written. -/
def written (Fs : List (List It)) (secs : Bool) : List (List It) := if secs then Fs else Fs.drop 1
def textL (Fs : List (List It)) (secs : Bool) : List UInt8 := joinL 32 ((written Fs secs).map fieldL)
/-- Each part is good at its place. -/
def GoodFs (Fs : List (List It)) : Prop := Fs.length = 6 ∧ ∀ (j : Nat) (h : j < Fs.length), goodF j Fs[j] = true
theorem written_take (Fs : List (List It)) (secs : Bool) (j : Nat) (h : j < Fs.length) (hw : secs = true ∨ 0 < j) :
    written (Fs.take (j + 1)) secs = written (Fs.take j) secs ++ [Fs[j]] := by
  unfold written
  rw [List.take_succ_eq_append_getElem h]
  cases secs with
  | true => rfl
  | false =>
    simp at hw
    rw [if_neg (by simp), if_neg (by simp), List.drop_append, show 1 - (List.take j Fs).length = 0 by rw [List.length_take]; omega]
    rfl
theorem text_from (Fs : List (List It)) (secs : Bool) (hF : GoodFs Fs) :
    ∀ (d j : Nat), 6 - j = d → j ≤ 6 → Ev (fun k => spec_Text.l0 k (B (joinL 32 ((written (Fs.take j) secs).map fieldL))) Fs 6 (j : Int) Fs secs) (B (textL Fs secs)) := by
  obtain ⟨h6, hg⟩ := hF
  intro d
  induction d with
  | zero =>
    intro j hd hj
    refine Ev.done fun k => ?_
    simp only [spec_Text.l0]
    rw [if_neg (by omega), List.take_of_length_le (by omega)]
    rfl
  | succ d ih =>
    intro j hd hj
    have hlt : j < Fs.length := by omega
    have hgj := hg j hlt
    have hrd := rdF_at Fs j hlt
    have hfl := fieldL_length hgj
    have hrec := ih (j + 1) (by omega) (by omega)
    have hb : (joinL 32 ((written (Fs.take j) secs).map fieldL)).length ≤ 330 := by
      have hall : ∀ x ∈ (written (Fs.take j) secs).map fieldL, x.length ≤ 54 := by
        intro x hx
        obtain ⟨y, hy, rfl⟩ := List.mem_map.1 hx
        have hy2 : y ∈ Fs := by
          unfold written at hy
          split at hy
          · exact List.mem_of_mem_take hy
          · exact List.mem_of_mem_take (List.mem_of_mem_drop hy)
        obtain ⟨q, hq, rfl⟩ := List.getElem_of_mem hy2
        exact fieldL_length (hg q hq)
      have := joinL_length 32 _ 54 hall
      have hlen : ((written (Fs.take j) secs).map fieldL).length ≤ 6 := by
        rw [List.length_map]
        unfold written
        split
        · rw [List.length_take]; omega
        · rw [List.length_drop, List.length_take]; omega
      have h2 : ((written (Fs.take j) secs).map fieldL).length * (54 + 1) ≤ 6 * (54 + 1) := Nat.mul_le_mul_right _ hlen
      omega
    by_cases hw : secs = true ∨ 0 < j
    · have e := written_take Fs secs j hlt hw
      rw [e, List.map_append] at hrec
      have hj1 : Ev (fun k => spec_Text.j1 k (B (joinL 32 ((written (Fs.take j) secs).map fieldL))) Fs[j] Fs 6 (j : Int) false Fs secs) (B (textL Fs secs)) := by
        by_cases hnil : (written (Fs.take j) secs).map fieldL = []
        · rw [hnil] at hrec ⊢
          refine Ev.step (f := fun k => (spec_FieldText.f k Fs[j]).bind fun t => if t.size ≤ 9223372036854775807 then spec_Text.l0 k (B [] ++ t) Fs 6 ((j + 1 : Nat) : Int) Fs secs else none) (fun k => ?_) (Ev.bind (field_ev hgj) ?_)
          · simp only [spec_Text.j1]
            rw [if_neg (by simp), if_pos (by rw [B_list]; rfl), wrap64_nat j (by omega)]
            simp [joinL, B_size]
          · refine Ev.congr (f := fun k => spec_Text.l0 k (B (joinL 32 ([] ++ [fieldL Fs[j]]))) Fs 6 ((j + 1 : Nat) : Int) Fs secs) (fun k => ?_) (by simpa using hrec)
            rw [if_pos (by rw [B_size]; omega), B_app]
            rfl
        · have hne : joinL 32 ((written (Fs.take j) secs).map fieldL) ≠ [] := by
            refine joinL_ne _ _ hnil ?_
            intro x hx
            obtain ⟨y, hy, rfl⟩ := List.mem_map.1 hx
            have hy2 : y ∈ Fs := by
              unfold written at hy
              split at hy
              · exact List.mem_of_mem_take hy
              · exact List.mem_of_mem_take (List.mem_of_mem_drop hy)
            obtain ⟨q, hq, rfl⟩ := List.getElem_of_mem hy2
            exact fieldL_ne (hg q hq)
          rw [List.map_singleton, joinL_snoc _ _ _ hnil] at hrec
          refine Ev.step (f := fun k => (spec_FieldText.f k Fs[j]).bind fun t => if (B (joinL 32 ((written (Fs.take j) secs).map fieldL) ++ [32])).size + t.size ≤ 9223372036854775807 then spec_Text.l0 k (B (joinL 32 ((written (Fs.take j) secs).map fieldL) ++ [32]) ++ t) Fs 6 ((j + 1 : Nat) : Int) Fs secs else none) (fun k => ?_) (Ev.bind (field_ev hgj) ?_)
          · simp only [spec_Text.j1]
            rw [if_neg (by simp), if_neg (by rw [B_list]; exact hne), wrap64_nat j (by omega), if_pos (by rw [B_size]; omega), show (⟨#[32]⟩ : ByteArray) = B [32] from rfl, B_app]
          · refine Ev.congr (f := fun k => spec_Text.l0 k (B (joinL 32 ((written (Fs.take j) secs).map fieldL) ++ 32 :: fieldL Fs[j])) Fs 6 ((j + 1 : Nat) : Int) Fs secs) (fun k => ?_) hrec
            rw [if_pos (by rw [B_size, B_size]; simp; omega), B_app]
            simp
      refine Ev.step (f := fun k => spec_Text.j1 k (B (joinL 32 ((written (Fs.take j) secs).map fieldL))) Fs[j] Fs 6 (j : Int) false Fs secs) (fun k => ?_) hj1
      simp only [spec_Text.l0, hrd]
      rw [if_pos (by omega), if_pos (by omega), if_pos (by omega)]
      by_cases h0 : j = 0
      · rw [if_pos (by omega)]
        have : secs = true := by rcases hw with h | h; exact h; omega
        rw [this]
        rfl
      · rw [if_neg (by omega)]
    · have hs : secs = false := by
        cases secs
        · rfl
        · exact absurd (Or.inl rfl) hw
      have h0 : j = 0 := by omega
      subst h0
      subst hs
      refine Ev.step (f := fun k => spec_Text.j1 k (B []) Fs[0] Fs 6 ((0 : Nat) : Int) true Fs false) (fun k => ?_) (Ev.step (f := fun k => spec_Text.l0 k (B []) Fs 6 ((0 + 1 : Nat) : Int) Fs false) (fun k => ?_) ?_)
      · simp only [spec_Text.l0, hrd]
        rw [if_pos (by omega), if_pos (by omega), if_pos (by omega), if_pos (by omega)]
        rfl
      · simp only [spec_Text.j1]
        rw [if_pos trivial, wrap64_nat 0 (by omega)]
      · have : written (Fs.take (0 + 1)) false = [] := by
          unfold written
          rw [if_neg (by simp), List.drop_eq_nil_of_le (by rw [List.length_take]; omega)]
        rw [this] at hrec
        exact hrec
theorem text_ev (Fs : List (List It)) (secs : Bool) (hF : GoodFs Fs) : Ev (fun k => spec_Text.f k Fs secs) (B (textL Fs secs)) := by
  have h := text_from Fs secs hF 6 0 rfl (by omega)
  unfold spec_Text.f
  rw [hF.1]
  have e : (written (Fs.take 0) secs).map fieldL = [] := by
    unfold written
    cases secs <;> simp
  rw [e] at h
  exact h
theorem goodE_spec {Fs : List (List It)} {secs : Bool} (h : goodE Fs secs = true) :
    ∃ f0 f1 f2 f3 f4 f5, Fs = [f0, f1, f2, f3, f4, f5] ∧ goodF 0 f0 = true ∧ goodF 1 f1 = true ∧ goodF 2 f2 = true ∧ goodF 3 f3 = true ∧ goodF 4 f4 = true ∧ goodF 5 f5 = true ∧ restE f0 f3 f4 f5 secs = true := by
  unfold goodE at h
  split at h
  · rename_i f0 f1 f2 f3 f4 f5
    simp only [Bool.and_eq_true] at h
    exact ⟨f0, f1, f2, f3, f4, f5, rfl, h.1, h.2.1, h.2.2.1, h.2.2.2.1, h.2.2.2.2.1, h.2.2.2.2.2.1, h.2.2.2.2.2.2⟩
  · cases h
theorem goodE_fs {Fs : List (List It)} {secs : Bool} (h : goodE Fs secs = true) : GoodFs Fs := by
  obtain ⟨f0, f1, f2, f3, f4, f5, rfl, h0, h1, h2, h3, h4, h5, _⟩ := goodE_spec h
  refine ⟨rfl, fun j hj => ?_⟩
  match j, hj with
  | 0, _ => exact h0
  | 1, _ => exact h1
  | 2, _ => exact h2
  | 3, _ => exact h3
  | 4, _ => exact h4
  | 5, _ => exact h5
  | n + 6, h => simp at h; omega
end Go.Proofs.YthndpmjmnglhfaaDoor.Core
namespace Go.Proofs.YthndpmjmnglhfaaDoor.Core
open Go.RowKit Go.Proofs.YthndpmjmnglhfaaDoorW.PrintWords

/-- A part: not empty, of signs and digits. -/
def PartOk (p : List UInt8) : Prop := p ≠ [] ∧ ∀ b ∈ p, 33 ≤ b.toNat ∧ b.toNat ≤ 63
theorem joinL_mem {c : UInt8} {P : List (List UInt8)} {b : UInt8} (h : b ∈ joinL c P) : b = c ∨ ∃ p ∈ P, b ∈ p := by
  induction P with
  | nil => cases h
  | cons x t ih =>
    cases t with
    | nil => exact Or.inr ⟨x, by simp, h⟩
    | cons y t =>
      rw [joinL] at h
      rcases List.mem_append.1 h with h | h
      · exact Or.inr ⟨x, by simp, h⟩
      · rcases List.mem_cons.1 h with h | h
        · exact Or.inl h
        · rcases ih h with h | ⟨p, hp, h⟩
          · exact Or.inl h
          · exact Or.inr ⟨p, by simp [hp], h⟩
theorem splitL_join (c : UInt8) (P : List (List UInt8)) (h : P ≠ []) (hc : ∀ p ∈ P, c ∉ p) : splitL c (joinL c P) = P := by
  induction P with
  | nil => exact absurd rfl h
  | cons x t ih =>
    cases t with
    | nil => exact splitL_none c x (hc x (by simp))
    | cons y t => rw [joinL, splitL_at c x _ (hc x (by simp)), ih (by simp) (fun p hp => hc p (by simp [hp]))]
theorem noDbl_part (p r : List UInt8) (hp : ∀ b ∈ p, b ≠ 32) (hr : noDbl r = true) : noDbl (p ++ r) = true := by
  induction p with
  | nil => exact hr
  | cons a t ih =>
    have ha : (a == 32) = false := by simpa using hp a (by simp)
    have := ih (fun b hb => hp b (by simp [hb]))
    rw [List.cons_append]
    match h : t ++ r with
    | [] => rfl
    | b :: s => rw [h] at this; simp [noDbl, ha, this]
theorem noDbl_join (P : List (List UInt8)) (hP : ∀ p ∈ P, PartOk p) : noDbl (joinL 32 P) = true := by
  have h32 : ∀ p ∈ P, ∀ b ∈ p, b ≠ 32 := by
    intro p hp b hb e
    have := (hP p hp).2 b hb
    rw [e] at this
    simp at this
  induction P with
  | nil => rfl
  | cons x t ih =>
    cases t with
    | nil => have := noDbl_part x [] (h32 x (by simp)) rfl; simpa [joinL] using this
    | cons y t =>
      rw [joinL]
      refine noDbl_part x _ (h32 x (by simp)) ?_
      have hrec := ih (fun p hp => hP p (by simp [hp])) (fun p hp => h32 p (by simp [hp]))
      match h : joinL 32 (y :: t) with
      | [] => rfl
      | b :: s =>
        rw [h] at hrec
        have hb : b ≠ 32 := by
          have hy := hP y (by simp)
          match hyy : y with
          | [] => exact absurd rfl hy.1
          | z :: zs =>
            have : b = z := by
              cases t with
              | nil => rw [joinL] at h; exact (List.cons.inj h).1.symm
              | cons w t => rw [joinL, List.cons_append] at h; exact (List.cons.inj h).1.symm
            rw [this]
            exact h32 (z :: zs) (by simp) z (by simp)
        simp [noDbl, hb, hrec]
theorem getLast_join (c : UInt8) (P : List (List UInt8)) (hne : P ≠ []) (hP : ∀ p ∈ P, p ≠ []) (b : UInt8) (h : (joinL c P).getLast? = some b) : ∃ p ∈ P, b ∈ p := by
  induction P with
  | nil => exact absurd rfl hne
  | cons x t ih =>
    cases t with
    | nil => exact ⟨x, by simp, List.mem_of_getLast? h⟩
    | cons y t =>
      have hy : joinL c (y :: t) ≠ [] := joinL_ne c _ (by simp) (fun p hp => hP p (by simp [hp]))
      rw [joinL, List.getLast?_append, List.getLast?_cons_of_ne_nil hy] at h
      match hl : (joinL c (y :: t)).getLast? with
      | none => exact absurd (List.getLast?_eq_none_iff.1 hl) hy
      | some z =>
        rw [hl, Option.some_or] at h
        obtain ⟨p, hp, hb⟩ := ih (by simp) (fun p hp => hP p (by simp [hp])) (by rw [hl]; exact h)
        exact ⟨p, by simp [hp], hb⟩
theorem head_join (c : UInt8) (P : List (List UInt8)) (hne : P ≠ []) (hP : ∀ p ∈ P, p ≠ []) (b : UInt8) (h : (joinL c P).head? = some b) : ∃ p ∈ P, b ∈ p := by
  match P, hne with
  | [x], _ => exact ⟨x, by simp, List.mem_of_mem_head? h⟩
  | x :: y :: t, _ =>
    match hx : x with
    | [] => exact absurd rfl (hP [] (by simp))
    | z :: zs =>
      rw [joinL, List.cons_append, List.head?_cons] at h
      exact ⟨z :: zs, by simp, by rw [← Option.some.inj h]; simp⟩
theorem normalize_ev (P : List (List UInt8)) (hne : P ≠ []) (hP : ∀ p ∈ P, PartOk p) (hl : (joinL 32 P).length < 8796093022208) : Ev (fun k => gronx_normalize.f k (B (joinL 32 P))) (P.map B) := by
  have hpl : ∀ b ∈ joinL 32 P, plainB b = true := by
    intro b hb
    rcases joinL_mem hb with h | ⟨p, hp, h⟩
    · subst h; rfl
    · have := (hP p hp).2 b h
      unfold plainB
      rw [decide_eq_true this.1, decide_eq_true this.2]
      simp
  have h63 : ∀ b ∈ joinL 32 P, b.toNat ≤ 63 := by
    intro b hb
    rcases joinL_mem hb with h | ⟨p, hp, h⟩
    · subst h; decide
    · exact ((hP p hp).2 b h).2
  have hends : ∀ b, (∃ p ∈ P, b ∈ p) → b ≠ 32 ∧ b ≠ 9 := by
    rintro b ⟨p, hp, h⟩
    have := (hP p hp).2 b h
    constructor <;> (intro e; subst e; simp at this)
  have hd := noDbl_join P hP
  have hjn : joinL 32 P ≠ [] := joinL_ne _ _ hne (fun p hp => (hP p hp).1)
  unfold gronx_normalize.f
  refine Ev.bind (f := fun k t174 => ((strings_ToLower.f t174).bind fun t175 => ((gronx_expression.f t175).bind fun bt176 => (if bt176.2 = true then (gronx_normalize.j0 k bt176.1) else (gronx_normalize.j0 k t174))))) (zzTrim_ev _ (by omega) hjn (fun b hb => hends b (head_join 32 P hne (fun p hp => (hP p hp).1) b hb)) (fun b hb => hends b (getLast_join 32 P hne (fun p hp => (hP p hp).1) b hb))) ?_
  refine Ev.congr (f := fun k => gronx_normalize.j0 k (B (joinL 32 P))) (fun k => ?_) ?_
  · simp only [toLower_plain _ (by omega : (joinL 32 P).length ≤ 140737488355328) h63, Option.bind_some, expression_no _ h63]
    rw [if_neg (by simp)]
  · refine Ev.step (f := fun k => (gronx_zzSpaces.f k (B (joinL 32 P))).bind fun t178 => ((strings_ToUpper.f t178).bind fun t179 => ((gronx_zzLiterals.f k t179).bind fun t180 => ((gronx_zzReplaceAll.f k t180 (⟨#[32, 32]⟩ : ByteArray) (⟨#[32]⟩ : ByteArray)).bind fun t181 => ((gronx_zzSplit.f k t181 (⟨#[32]⟩ : ByteArray)).bind fun t182 => (some t182)))))) (fun k => by simp only [gronx_normalize.j0]) ?_
    refine Ev.bind (zzSpaces_ev _ (by omega) hd hpl) ?_
    refine Ev.congr (f := fun k => (gronx_zzLiterals.f k (B (joinL 32 P))).bind fun t180 => ((gronx_zzReplaceAll.f k t180 (⟨#[32, 32]⟩ : ByteArray) (⟨#[32]⟩ : ByteArray)).bind fun t181 => ((gronx_zzSplit.f k t181 (⟨#[32]⟩ : ByteArray)).bind fun t182 => (some t182)))) (fun k => by rw [toUpper_plain _ (by omega : (joinL 32 P).length ≤ 140737488355328) h63]; rfl) ?_
    refine Ev.bind (zzLiterals_ev _ (by omega) h63) ?_
    refine Ev.bind (f := fun k t181 => ((gronx_zzSplit.f k t181 (⟨#[32]⟩ : ByteArray)).bind fun t182 => (some t182))) (zzReplace_no _ [32, 32] [32] (by simp) (by simp) (noDbl_idx _ hd 0) (by omega)) ?_
    have hs := zzSplit_ev 32 (joinL 32 P) hl
    rw [splitL_join 32 P hne (fun p hp e => by have := (hP p hp).2 32 e; simp at this)] at hs
    exact Ev.bind hs (Ev.const rfl)
theorem segments_ev (P : List (List UInt8)) (hP : ∀ p ∈ P, PartOk p) (hl : (joinL 32 P).length < 8796093022208) (h5 : 5 ≤ P.length) (h7 : P.length ≤ 7) (h5l : ∀ h : P.length = 6, (P[5]'(by omega)).length < 4611686018427387904) :
    Ev (fun k => gronx_Segments.f k (B (joinL 32 P))) (((if P.length = 5 ∨ (∃ h : P.length = 6, hasYr (P[5]'(by omega)) 0 = true) then [48] :: P else P).map B), none) := by
  have hne : P ≠ [] := by intro e; rw [e] at h5; simp at h5
  unfold gronx_Segments.f
  refine Ev.bind (f := fun k t185 => (if (t185.length : Int) < 5 then (gronx_Segments.j0 k t185 (t185.length : Int) true) else (gronx_Segments.j0 k t185 (t185.length : Int) (decide ((t185.length : Int) > 7))))) (normalize_ev P hne hP hl) ?_
  rw [List.length_map]
  refine Ev.congr (f := fun k => gronx_Segments.j0 k (P.map B) (P.length : Int) false) (fun k => ?_) ?_
  · rw [if_neg (by omega), decide_eq_false (by omega)]
  by_cases e5 : P.length = 5
  · rw [if_pos (Or.inl e5)]
    refine Ev.done fun k => ?_
    simp only [gronx_Segments.j0]
    rw [if_neg (by simp), if_pos (by omega)]
    simp only [Option.bind_some]
    rw [if_pos (by simp; omega)]
    rfl
  · by_cases e6 : P.length = 6
    · have hy := zzHasYear_ev (P[5]'(by omega)) (h5l e6)
      have hrd : rdOf ByteArray.empty (P.map B) 5 = B (P[5]'(by omega)) := by simp [rdOf, e6]
      refine Ev.step (f := fun k => (gronx_zzHasYear.f k (B (P[5]'(by omega)))).bind fun t199 => (if t199 = true then ((some (([(⟨#[48]⟩ : ByteArray)] : List ByteArray) : List ByteArray)).bind fun y200 => (if y200.length + (P.map B).length < 8796093022208 then (some ((y200 ++ P.map B), none)) else (none))) else (some (P.map B, none)))) (fun k => ?_) (Ev.bind hy (Ev.const ?_))
      · simp only [gronx_Segments.j0]
        rw [if_neg (by simp), if_neg (by omega), if_pos (by omega), if_pos (by simp; omega), hrd]
      · cases hb : hasYr (P[5]'(by omega)) 0 with
        | true =>
          rw [if_pos rfl, if_pos (Or.inr ⟨e6, hb⟩)]
          simp only [Option.bind_some]
          rw [if_pos (by simp; omega)]
          rfl
        | false =>
          rw [if_neg (by simp), if_neg (by rintro (h | ⟨_, h⟩); omega; rw [hb] at h; cases h)]
    · rw [if_neg (by rintro (h | ⟨h, _⟩) <;> omega)]
      refine Ev.done fun k => ?_
      simp only [gronx_Segments.j0]
      rw [if_neg (by simp), if_neg (by omega), if_neg (by omega)]
theorem parts_ev {s : ByteArray} {P : List ByteArray} (h : Ev (fun k => gronx_Segments.f k s) (P, none)) : Ev (fun k => impl_Parts.f k s) (P, true) := by
  unfold impl_Parts.f
  exact Ev.bind (f := fun _ (bt206 : List ByteArray × Option Int) => if bt206.2.isNone = true then (some (bt206.1, true)) else (some (bt206.1, false))) h (Ev.const rfl)

/-! ### No four digits side by side -/
def nd (c : UInt8) : Prop := c.toNat < 48 ∨ 57 < c.toNat
def StartsNd (r : List UInt8) : Prop := r = [] ∨ ∃ c r', r = c :: r' ∧ nd c
def NoYr (l : List UInt8) : Prop := ∀ r, StartsNd r → hasYr (l ++ r) 0 = hasYr r 0
theorem noYr_nil : NoYr [] := fun _ _ => rfl
theorem hasYr_run (p r : List UInt8) (hp : ∀ b ∈ p, 48 ≤ b.toNat ∧ b.toNat ≤ 57) (hr : StartsNd r) (n : Nat) (h : p.length + n < 4) : hasYr (p ++ r) n = hasYr r 0 := by
  induction p generalizing n with
  | nil =>
    rcases hr with rfl | ⟨c, r', rfl, hc⟩
    · rfl
    · simp [hasYr, show c.toNat < 48 ∨ 57 < c.toNat from hc]
  | cons a t ih =>
    have ha := hp a (by simp)
    simp only [List.length_cons] at h
    rw [List.cons_append, hasYr, if_neg (by omega), if_neg (by omega)]
    exact ih (fun b hb => hp b (by simp [hb])) (n + 1) (by omega)
theorem noYr_digits (p : List UInt8) (hp : ∀ b ∈ p, 48 ≤ b.toNat ∧ b.toNat ≤ 57) (h : p.length < 4) : NoYr p := fun r hr => hasYr_run p r hp hr 0 (by omega)
theorem noYr_cons (c : UInt8) (l : List UInt8) (hc : nd c) (h : NoYr l) : NoYr (c :: l) := by
  intro r hr
  rw [List.cons_append, hasYr, if_pos (show c.toNat < 48 ∨ 57 < c.toNat from hc)]
  exact h r hr
theorem noYr_app (l m : List UInt8) (h : NoYr l) (hm : NoYr m) (hs : StartsNd m) : NoYr (l ++ m) := by
  intro r hr
  rw [List.append_assoc, h (m ++ r) ?_]
  · exact hm r hr
  · rcases hs with rfl | ⟨c, m', rfl, hc⟩
    · exact hr
    · exact Or.inr ⟨c, m' ++ r, rfl, hc⟩
theorem noYr_step (s : Int) (h : s ≤ 60) : NoYr (stepL s) ∧ StartsNd (stepL s) := by
  unfold stepL
  split
  · have := decN_two s.toNat (by omega)
    exact ⟨noYr_cons 47 _ (by unfold nd; decide) (noYr_digits _ (decN_digit _) (by omega)), Or.inr ⟨47, _, rfl, by unfold nd; decide⟩⟩
  · exact ⟨noYr_nil, Or.inl rfl⟩
theorem noYr_item {i : Nat} {x : It} (h : goodItem i x = true) : NoYr (itemL x) := by
  obtain ⟨s1, s2, hr⟩ := goodItem_spec h
  obtain ⟨q1, q2⟩ := noYr_step x.f3 s2
  unfold itemL
  cases h0 : x.f0 with
  | true => rw [if_pos rfl]; exact noYr_cons 42 _ (by unfold nd; decide) q1
  | false =>
    obtain ⟨r1, r2, r3, _, _⟩ := hr h0
    have l1 := decN_two x.f1.toNat (by omega)
    have l2 := decN_two x.f2.toNat (by omega)
    rw [if_neg (by simp)]
    refine noYr_app _ _ (noYr_digits _ (decN_digit _) (by omega)) ?_ ?_
    · split
      · exact noYr_app _ _ (noYr_cons 45 _ (by unfold nd; decide) (noYr_digits _ (decN_digit _) (by omega))) q1 q2
      · exact q1
    · split
      · exact Or.inr ⟨45, _, rfl, by unfold nd; decide⟩
      · exact q2
theorem noYr_join (P : List (List UInt8)) (h : ∀ p ∈ P, NoYr p) : NoYr (joinL 44 P) := by
  induction P with
  | nil => exact noYr_nil
  | cons x t ih =>
    cases t with
    | nil => exact h x (by simp)
    | cons y t =>
      rw [joinL]
      have hc : nd 44 := by unfold nd; decide
      exact noYr_app _ _ (h x (by simp)) (noYr_cons 44 _ hc (ih (fun p hp => h p (by simp [hp])))) (Or.inr ⟨44, _, rfl, hc⟩)
theorem field_noYr {i : Nat} {l : List It} (h : goodF i l = true) : hasYr (fieldL l) 0 = false := by
  obtain ⟨hg, _, _⟩ := goodF_spec h
  have := noYr_join (l.map itemL) (by intro p hp; obtain ⟨x, hx, rfl⟩ := List.mem_map.1 hp; exact noYr_item (hg x hx)) [] (Or.inl rfl)
  rw [List.append_nil] at this
  exact this

/-! ### The text of a good expression -/
theorem decN_part (n : Nat) : ∀ b ∈ decN n, 33 ≤ b.toNat ∧ b.toNat ≤ 63 := fun b hb => by have := decN_digit n b hb; omega
theorem itemL_part (x : It) : ∀ b ∈ itemL x, 33 ≤ b.toNat ∧ b.toNat ≤ 63 := by
  have hs : ∀ b ∈ stepL x.f3, 33 ≤ b.toNat ∧ b.toNat ≤ 63 := by
    intro b hb
    unfold stepL at hb
    split at hb
    · rcases List.mem_cons.1 hb with h | h
      · subst h; decide
      · exact decN_part _ b h
    · cases hb
  intro b hb
  unfold itemL at hb
  split at hb
  · rcases List.mem_cons.1 hb with h | h
    · subst h; decide
    · exact hs b h
  · rcases List.mem_append.1 hb with h | h
    · exact decN_part _ b h
    · rcases List.mem_append.1 h with h | h
      · split at h
        · rcases List.mem_cons.1 h with h | h
          · subst h; decide
          · exact decN_part _ b h
        · cases h
      · exact hs b h
theorem field_part {i : Nat} {l : List It} (h : goodF i l = true) : PartOk (fieldL l) := by
  refine ⟨fieldL_ne h, fun b hb => ?_⟩
  rcases joinL_mem hb with h | ⟨p, hp, h⟩
  · subst h; decide
  · obtain ⟨x, _, rfl⟩ := List.mem_map.1 hp
    exact itemL_part x b h
theorem zeroF_field {l : List It} (h : zeroF l = true) : fieldL l = [48] := by
  unfold zeroF at h
  split at h
  · rename_i x
    simp only [Bool.and_eq_true, Bool.not_eq_true', beq_iff_eq] at h
    obtain ⟨⟨⟨h0, h1⟩, h2⟩, h3⟩ := h
    simp [fieldL, joinL, itemL, stepL, h0, h1, h2, h3, decN_lt]
  · cases h
theorem exprSegments_ev {Fs : List (List It)} {secs : Bool} (h : goodE Fs secs = true) : Ev (fun k => gronx_Segments.f k (B (textL Fs secs))) (Fs.map fun f => B (fieldL f), none) := by
  obtain ⟨f0, f1, f2, f3, f4, f5, rfl, h0, h1, h2, h3, h4, h5, hr⟩ := goodE_spec h
  have l0 := fieldL_length h0
  have l1 := fieldL_length h1
  have l2 := fieldL_length h2
  have l3 := fieldL_length h3
  have l4 := fieldL_length h4
  have l5 := fieldL_length h5
  cases secs with
  | true =>
    have hs := segments_ev [fieldL f0, fieldL f1, fieldL f2, fieldL f3, fieldL f4, fieldL f5] (by
      intro p hp
      simp only [List.mem_cons, List.not_mem_nil, or_false] at hp
      rcases hp with rfl | rfl | rfl | rfl | rfl | rfl
      · exact field_part h0
      · exact field_part h1
      · exact field_part h2
      · exact field_part h3
      · exact field_part h4
      · exact field_part h5) (by simp [joinL]; omega) (by simp) (by simp) (by intro _; simp; omega)
    rw [if_neg (by simp [field_noYr h5])] at hs
    exact hs
  | false =>
    have hs := segments_ev [fieldL f1, fieldL f2, fieldL f3, fieldL f4, fieldL f5] (by
      intro p hp
      simp only [List.mem_cons, List.not_mem_nil, or_false] at hp
      rcases hp with rfl | rfl | rfl | rfl | rfl
      · exact field_part h1
      · exact field_part h2
      · exact field_part h3
      · exact field_part h4
      · exact field_part h5) (by simp [joinL]; omega) (by simp) (by simp) (by intro h; simp at h)
    rw [if_pos (by simp)] at hs
    have hz : zeroF f0 = true := by
      unfold restE at hr
      simp only [Bool.and_eq_true, Bool.false_or] at hr
      exact hr.1.1
    have e := zeroF_field hz
    simp only [List.map_cons, List.map_nil, e]
    exact hs
end Go.Proofs.YthndpmjmnglhfaaDoor.Core
namespace Go.Proofs.YthndpmjmnglhfaaDoor.Core
open Go.RowKit Go.Proofs.YthndpmjmnglhfaaDoorW.PrintWords

abbrev Ro := S40
def cv (x : Ro) : It := ⟨x.f0, x.f1, x.f2, x.f3⟩
def cvs (raw : List (List Ro)) : List (List It) := raw.map fun l => l.map cv
def fitsB (raw : List (List Ro)) : Bool := decide (raw.length ≤ 2147483647) && raw.all fun l => decide (l.length ≤ 2147483647)
theorem rdRo_at (l : List Ro) (j : Nat) (h : j < l.length) : rd_T40 l (j : Int) = l[j] := by simp [rd_T40, h]
theorem rdRoF_at (l : List (List Ro)) (j : Nat) (h : j < l.length) : rd_L3 l (j : Int) = l[j] := by simp [rd_L3, h]
theorem fits_from (raw : List (List Ro)) (hl : raw.length ≤ 2147483647) :
    ∀ (rest : List (List Ro)) (j : Nat), raw.drop j = rest → j ≤ raw.length → Ev (fun k => laws_zzFits2.l0 k raw (raw.length : Int) (j : Int)) (rest.all fun l => decide (l.length ≤ 2147483647)) := by
  intro rest
  induction rest with
  | nil =>
    intro j hj hjl
    have hlen : raw.length ≤ j := List.drop_eq_nil_iff.1 hj
    refine Ev.done fun k => ?_
    simp only [laws_zzFits2.l0]
    rw [if_neg (by omega)]
    rfl
  | cons x t ih =>
    intro j hj hjl
    have hlt : j < raw.length := by
      rcases Nat.lt_or_ge j raw.length with h | h
      · exact h
      · rw [List.drop_eq_nil_of_le h] at hj; cases hj
    have hx : raw[j] = x := by
      have := List.drop_eq_getElem_cons hlt
      rw [hj] at this
      exact (List.cons.inj this).1.symm
    have ht : raw.drop (j + 1) = t := by rw [← List.drop_drop, hj]; rfl
    have hrd := rdRoF_at raw j hlt
    rw [hx] at hrd
    have hrec := ih (j + 1) ht (by omega)
    rw [List.all_cons]
    by_cases h1 : x.length ≤ 2147483647
    · rw [decide_eq_true h1, Bool.true_and]
      refine Ev.step (f := fun k => laws_zzFits2.l0 k raw (raw.length : Int) ((j + 1 : Nat) : Int)) (fun k => ?_) hrec
      simp only [laws_zzFits2.l0, hrd]
      rw [if_pos (by omega), if_pos (by omega), if_pos (by omega), if_neg (by omega), wrap64_nat j (by omega)]
    · rw [decide_eq_false h1, Bool.false_and]
      refine Ev.done fun k => ?_
      simp only [laws_zzFits2.l0, hrd]
      rw [if_pos (by omega), if_pos (by omega), if_pos (by omega), if_pos (by omega)]
theorem fits2_ev (raw : List (List Ro)) : Ev (fun k => laws_zzFits2.f k raw) (fitsB raw) := by
  unfold fitsB
  by_cases h : raw.length ≤ 2147483647
  · rw [decide_eq_true h, Bool.true_and]
    refine Ev.congr (f := fun k => laws_zzFits2.l0 k raw (raw.length : Int) ((0 : Nat) : Int)) (fun k => ?_) (fits_from raw h raw 0 rfl (Nat.zero_le _))
    unfold laws_zzFits2.f
    rw [if_neg (by omega)]
    rfl
  · rw [decide_eq_false h, Bool.false_and]
    refine Ev.congr (f := fun _ => some false) (fun k => ?_) (Ev.const rfl)
    unfold laws_zzFits2.f
    rw [if_pos (by omega)]
theorem fits1_ev (raw : List (List Ro)) (secs : Bool) : Ev (fun k => laws_zzFits1.f k raw secs) (fitsB raw) := by
  unfold laws_zzFits1.f
  refine Ev.bind (f := fun _ t => if t = true then some true else some false) (fits2_ev raw) (Ev.const ?_)
  cases fitsB raw <;> rfl
theorem fitsB_spec {raw : List (List Ro)} (h : fitsB raw = true) : raw.length ≤ 2147483647 ∧ ∀ l ∈ raw, l.length ≤ 2147483647 := by
  unfold fitsB at h
  simp only [Bool.and_eq_true, decide_eq_true_eq, List.all_eq_true] at h
  exact h
theorem expr_l1 (raw : List (List Ro)) (j : Int) (out : List (List It)) (secs : Bool) (l : List Ro) (hl : l.length ≤ 2147483647) (r : List (List It) × Bool) (ho : out.length < 5864062014805)
    (hn : Ev (fun k => laws_expr.l0 k raw (raw.length : Int) (wrap64 (j + 1)) (out ++ [l.map cv]) secs) r) :
    ∀ (rest : List Ro) (i : Nat), l.drop i = rest → i ≤ l.length → Ev (fun k => laws_expr.l1 k ((l.take i).map cv) raw (raw.length : Int) j l (l.length : Int) (i : Int) out secs) r := by
  intro rest
  induction rest with
  | nil =>
    intro i hi hil
    have hlen : l.length ≤ i := List.drop_eq_nil_iff.1 hi
    refine Ev.step (f := fun k => laws_expr.l0 k raw (raw.length : Int) (wrap64 (j + 1)) (out ++ [l.map cv]) secs) (fun k => ?_) hn
    simp only [laws_expr.l1]
    rw [if_neg (by omega), if_pos ho, List.take_of_length_le hlen]
  | cons x t ih =>
    intro i hi hil
    have hlt : i < l.length := by
      rcases Nat.lt_or_ge i l.length with h | h
      · exact h
      · rw [List.drop_eq_nil_of_le h] at hi; cases hi
    have ht : l.drop (i + 1) = t := by rw [← List.drop_drop, hi]; rfl
    have hrec := ih (i + 1) ht (by omega)
    refine Ev.step (f := fun k => laws_expr.l1 k ((l.take (i + 1)).map cv) raw (raw.length : Int) j l (l.length : Int) ((i + 1 : Nat) : Int) out secs) (fun k => ?_) hrec
    simp only [laws_expr.l1, rdRo_at l i hlt]
    rw [if_pos (by omega), if_pos (by omega), if_pos (by omega), if_pos (by rw [List.length_map, List.length_take]; omega), wrap64_nat i (by omega), List.take_succ_eq_append_getElem hlt, List.map_append]
    rfl
theorem expr_from (raw : List (List Ro)) (secs : Bool) (h : fitsB raw = true) :
    ∀ (rest : List (List Ro)) (j : Nat), raw.drop j = rest → j ≤ raw.length → Ev (fun k => laws_expr.l0 k raw (raw.length : Int) (j : Int) (cvs (raw.take j)) secs) (cvs raw, secs) := by
  obtain ⟨hl, hall⟩ := fitsB_spec h
  intro rest
  induction rest with
  | nil =>
    intro j hj hjl
    have hlen : raw.length ≤ j := List.drop_eq_nil_iff.1 hj
    refine Ev.done fun k => ?_
    simp only [laws_expr.l0]
    rw [if_neg (by omega), List.take_of_length_le hlen]
  | cons x t ih =>
    intro j hj hjl
    have hlt : j < raw.length := by
      rcases Nat.lt_or_ge j raw.length with h | h
      · exact h
      · rw [List.drop_eq_nil_of_le h] at hj; cases hj
    have hx : raw[j] = x := by
      have := List.drop_eq_getElem_cons hlt
      rw [hj] at this
      exact (List.cons.inj this).1.symm
    have ht : raw.drop (j + 1) = t := by rw [← List.drop_drop, hj]; rfl
    have hrd := rdRoF_at raw j hlt
    rw [hx] at hrd
    have hrec := ih (j + 1) ht (by omega)
    have hxl : x.length ≤ 2147483647 := hall x (by rw [← hx]; exact List.getElem_mem hlt)
    have hout : (cvs (raw.take j)).length < 5864062014805 := by unfold cvs; rw [List.length_map, List.length_take]; omega
    have e : cvs (raw.take (j + 1)) = cvs (raw.take j) ++ [x.map cv] := by unfold cvs; rw [List.take_succ_eq_append_getElem hlt, List.map_append, hx]; rfl
    rw [e] at hrec
    have h1 := expr_l1 raw (j : Int) (cvs (raw.take j)) secs x hxl (cvs raw, secs) hout (by rw [wrap64_nat j (by omega)]; exact hrec) x 0 rfl (Nat.zero_le _)
    refine Ev.step (f := fun k => laws_expr.l1 k [] raw (raw.length : Int) (j : Int) x (x.length : Int) 0 (cvs (raw.take j)) secs) (fun k => ?_) h1
    simp only [laws_expr.l0, hrd]
    rw [if_pos (by omega), if_pos (by omega), if_pos (by omega)]
theorem expr_ev (raw : List (List Ro)) (secs : Bool) (h : fitsB raw = true) : Ev (fun k => laws_expr.f k raw secs) (cvs raw, secs) :=
  expr_from raw secs h raw 0 rfl (Nat.zero_le _)
theorem cvs_len {raw : List (List Ro)} (h : fitsB raw = true) : ∀ l ∈ cvs raw, l.length < 4611686018427387904 := by
  intro l hl
  unfold cvs at hl
  obtain ⟨m, hm, rfl⟩ := List.mem_map.1 hl
  have := (fitsB_spec h).2 m hm
  rw [List.length_map]
  omega
end Go.Proofs.YthndpmjmnglhfaaDoor.Core
namespace Go.Proofs.YthndpmjmnglhfaaDoor.Core
open Go.RowKit Go.Proofs.YthndpmjmnglhfaaDoorW.PrintWords
theorem fnSegments_loop (Fs : List (List It)) (hF : GoodFs Fs) :
    ∀ (d j : Nat), 6 - j = d → j ≤ 6 → Ev (fun k => laws_FnSegments.l0 k (Fs.map fun f => B (fieldL f)) Fs 6 (j : Int)) true := by
  obtain ⟨h6, hg⟩ := hF
  intro d
  induction d with
  | zero =>
    intro j hd hj
    refine Ev.done fun k => ?_
    simp only [laws_FnSegments.l0]
    rw [if_neg (by omega)]
  | succ d ih =>
    intro j hd hj
    have hlt : j < Fs.length := by omega
    have hrd := rdF_at Fs j hlt
    have hrec := ih (j + 1) (by omega) (by omega)
    have ho : rdOf ByteArray.empty (Fs.map fun f => B (fieldL f)) (j : Int) = B (fieldL Fs[j]) := by simp [rdOf, hlt]
    refine Ev.step (f := fun k => (spec_FieldText.f k Fs[j]).bind fun t => if (B (fieldL Fs[j])).toList = t.toList then laws_FnSegments.l0 k (Fs.map fun f => B (fieldL f)) Fs 6 ((j + 1 : Nat) : Int) else some false) (fun k => ?_) (Ev.bind (field_ev (hg j hlt)) (Ev.congr (fun k => if_pos rfl) hrec))
    simp only [laws_FnSegments.l0, hrd, ho]
    rw [if_pos (by omega), if_pos (by omega), if_pos (by omega), if_pos (by rw [List.length_map]; omega), wrap64_nat j (by omega)]
theorem fnSegments_pure (raw : List (List Ro)) (secs : Bool) : ∃ k, laws_FnSegments.f k raw secs = some true := by
  refine Ev.rounds (g := fun k => laws_FnSegments.f k raw secs) ?_
  unfold laws_FnSegments.f
  refine Ev.bind (f := fun k t228 => if t228 = true then ((laws_expr.f k raw secs).bind fun bt229 => ((spec_ExprGood.f k bt229.1 bt229.2).bind fun t234 => (if t234 = true then ((spec_Text.f k bt229.1 bt229.2).bind fun t235 => ((impl_Parts.f k t235).bind fun bt236 => (if bt236.2 = true then (laws_FnSegments.j0 k bt236.1 ((bt236.1.length : Int) != 6) bt229.1 bt229.2) else (laws_FnSegments.j0 k bt236.1 true bt229.1 bt229.2)))) else (some true)))) else (some true)) (fits1_ev raw secs) ?_
  cases hf : fitsB raw with
  | false => exact Ev.congr (fun k => if_neg (by simp)) (Ev.now true)
  | true =>
    refine Ev.congr (fun k => if_pos rfl) (Ev.bind (f := fun k bt229 => ((spec_ExprGood.f k bt229.1 bt229.2).bind fun t234 => (if t234 = true then ((spec_Text.f k bt229.1 bt229.2).bind fun t235 => ((impl_Parts.f k t235).bind fun bt236 => (if bt236.2 = true then (laws_FnSegments.j0 k bt236.1 ((bt236.1.length : Int) != 6) bt229.1 bt229.2) else (laws_FnSegments.j0 k bt236.1 true bt229.1 bt229.2)))) else (some true)))) (expr_ev raw secs hf) ?_)
    refine Ev.bind (f := fun k t234 => (if t234 = true then ((spec_Text.f k (cvs raw) secs).bind fun t235 => ((impl_Parts.f k t235).bind fun bt236 => (if bt236.2 = true then (laws_FnSegments.j0 k bt236.1 ((bt236.1.length : Int) != 6) (cvs raw) secs) else (laws_FnSegments.j0 k bt236.1 true (cvs raw) secs)))) else (some true))) (exprGood_ev (cvs raw) secs (cvs_len hf)) ?_
    cases hg : goodE (cvs raw) secs with
    | false => exact Ev.congr (fun k => if_neg (by simp)) (Ev.now true)
    | true =>
      have hF := goodE_fs hg
      refine Ev.congr (fun k => if_pos rfl) (Ev.bind (f := fun k t235 => ((impl_Parts.f k t235).bind fun bt236 => (if bt236.2 = true then (laws_FnSegments.j0 k bt236.1 ((bt236.1.length : Int) != 6) (cvs raw) secs) else (laws_FnSegments.j0 k bt236.1 true (cvs raw) secs)))) (text_ev (cvs raw) secs hF) ?_)
      refine Ev.bind (f := fun k bt236 => (if bt236.2 = true then (laws_FnSegments.j0 k bt236.1 ((bt236.1.length : Int) != 6) (cvs raw) secs) else (laws_FnSegments.j0 k bt236.1 true (cvs raw) secs))) (parts_ev (exprSegments_ev hg)) ?_
      refine Ev.congr (f := fun k => laws_FnSegments.j0 k ((cvs raw).map fun f => B (fieldL f)) false (cvs raw) secs) (fun k => ?_) (Ev.step (f := fun k => laws_FnSegments.l0 k ((cvs raw).map fun f => B (fieldL f)) (cvs raw) 6 ((0 : Nat) : Int)) (fun k => ?_) (fnSegments_loop (cvs raw) hF 6 0 rfl (by omega)))
      · simp only [List.length_map, hF.1]
        rfl
      · simp only [laws_FnSegments.j0]
        rw [if_neg (by simp), hF.1]
        rfl
end Go.Proofs.YthndpmjmnglhfaaDoor.Core
namespace Go.Proofs.YthndpmjmnglhfaaDoor.Core
open Go.RowKit Go.Proofs.YthndpmjmnglhfaaDoorW.PrintWords Go.ChangeShapes Go.WideShapes Go.Deep
theorem rows_list {α : Type} {Q : Nat → α → Prop} (n : Nat) (h : ∀ i, i < n → ∃ x, Q i x) : ∃ l : List α, l.length = n ∧ ∀ j p, l[j]? = some p → Q j p := by
  induction n with
  | zero => exact ⟨[], rfl, fun j p hj => by simp at hj⟩
  | succ n ih =>
    obtain ⟨l, hl, hq⟩ := ih (fun i hi => h i (by omega))
    obtain ⟨x, hx⟩ := h n (by omega)
    refine ⟨l ++ [x], by simp [hl], fun j p hj => ?_⟩
    rcases Nat.lt_or_ge j l.length with h1 | h1
    · rw [List.getElem?_append_left h1] at hj
      exact hq j p hj
    · rw [List.getElem?_append_right h1] at hj
      have h2 : j - l.length = 0 := by
        rcases Nat.eq_zero_or_pos (j - l.length) with h3 | h3
        · exact h3
        · rw [List.getElem?_eq_none (by simp; omega)] at hj; cases hj
      rw [h2] at hj
      obtain rfl : x = p := by simpa using hj
      obtain rfl : j = n := by omega
      exact hx
section
variable {H : Type} {enc : TypeId × Value → H} {P : Program} {W : World} {spare : Nat → Bool} {held : Bool}
theorem C_of_trod {α : Type} (d : Kd α) {t e : TypeId} (ht : P.underlying t = some (.slice e)) (hC : P.cellsOf e = d.sz)
    (rd : ∀ (n : Nat) (cs : List Value) y, cs.length = P.cellsOf e → DataW.trod enc P W 0 spare held n e cs = some y → ∃ x, d.K W x cs)
    {n : Nat} {va : Value} {y : DataW H × List MemPlace} (h : DataW.trod enc P W 0 spare held n t [va] = some y) :
    ∃ (A : Option Addr) (c : Nat) (l : List α), va = .slice A l.length c ∧ l.length ≤ c ∧ Kd.C d W A l.length l := by
  rcases open_slice ht h with ⟨h0, _⟩ | ⟨a, len, cap, m, n', D, Pl, hcs, _, hl, hm, hmm, _, hi⟩
  · obtain rfl : va = .slice none 0 0 := by simpa using h0
    exact ⟨none, 0, [], rfl, Nat.le_refl _, rfl, by simp, fun h => absurd h (by simp)⟩
  · obtain rfl : va = .slice (some a) len cap := by simpa using hcs
    have hlm : len ≤ m := by rw [hmm]; split <;> omega
    obtain ⟨l, hll, hq⟩ := rows_list (Q := fun i x => ∃ c, c.length = d.sz ∧ d.K W x c ∧ ∀ j u, c[j]? = some u → W.cell? (a.add (i * d.sz + j)) = some u) len (fun i hi' => by
      obtain ⟨cs', hc, htr⟩ := hi i (by omega)
      obtain ⟨_, hcl, hat⟩ := World.cells?_some hc
      obtain ⟨x, hx⟩ := rd _ _ _ hcl htr
      refine ⟨x, cs', by rw [hcl, hC], hx, fun j u hu => ?_⟩
      have hj : j < cs'.length := (List.getElem?_eq_some_iff.1 hu).1
      have := hat j (by omega)
      rw [Go.Deep.add_add, hC] at this
      rw [this, hu])
    subst hll
    refine ⟨some a, cap, l, rfl, hl, rfl, ?_, fun _ => ⟨a, rfl, fun j p hj => hq j p hj⟩⟩
    unfold maxLen at hm
    omega
end
section
variable {H : Type} {enc : TypeId × Value → H} {W : World} {spare : Nat → Bool} {held : Bool}
theorem cells_item : Tryd.prog.cellsOf 40 = 4 := by kernel_rfl
theorem read_item (n : Nat) (cs : List Value) (y : DataW H × List MemPlace) (hl : cs.length = Tryd.prog.cellsOf 40) (h : DataW.trod enc Tryd.prog W 0 spare held n 40 cs = some y) : ∃ x, k40.K W x cs := by
  rw [cells_item] at hl
  obtain ⟨y0, y1, y2, y3, m, _, _, h0, h1, h2, h3⟩ := Go.Joins.trod_struct4 Tryd.underlying40 h
  match cs, hl with
  | [c0, c1, c2, c3], _ =>
    rw [show Tryd.prog.cellsOf 4 = 1 by kernel_rfl] at h0
    rw [show Tryd.prog.cellsOf 3 = 1 by kernel_rfl] at h1 h2 h3
    obtain ⟨b, hb, _⟩ := DataW.trod_bool Tryd.underlying4 h0
    obtain ⟨i1, e1, _⟩ := DataW.trod_int Tryd.underlying3 h1
    obtain ⟨i2, e2, _⟩ := DataW.trod_int Tryd.underlying3 h2
    obtain ⟨i3, e3, _⟩ := DataW.trod_int Tryd.underlying3 h3
    obtain rfl : c0 = .bool b := by simpa using hb
    obtain rfl : c1 = .int .i64 i1 := by simpa using e1
    obtain rfl : c2 = .int .i64 i2 := by simpa using e2
    obtain rfl : c3 = .int .i64 i3 := by simpa using e3
    exact ⟨⟨b, i1, i2, i3⟩, k40_mk W ⟨b, i1, i2, i3⟩⟩
theorem read_items (n : Nat) (cs : List Value) (y : DataW H × List MemPlace) (hl : cs.length = Tryd.prog.cellsOf 38) (h : DataW.trod enc Tryd.prog W 0 spare held n 38 cs = some y) : ∃ x, (Kd.slice 40 k40).K W x cs := by
  rw [show Tryd.prog.cellsOf 38 = 1 by kernel_rfl] at hl
  match cs, hl with
  | [c], _ =>
    obtain ⟨A, cap, l, rfl, hlc, hC⟩ := C_of_trod k40 Tryd.underlying38 cells_item read_item h
    exact ⟨l, A, cap, rfl, hlc, hC⟩
theorem read_fields {n : Nat} {va : Value} {y : DataW H × List MemPlace} (h : DataW.trod enc Tryd.prog W 0 spare held n 22 [va] = some y) :
    ∃ (A : Option Addr) (c : Nat) (l : List (List S40)), va = .slice A l.length c ∧ l.length ≤ c ∧ Kd.C (Kd.slice 40 k40) W A l.length l :=
  C_of_trod (Kd.slice 40 k40) Tryd.underlying22 (by kernel_rfl) read_items h
/-- An expression by value. -/
theorem read_expr {v : Value} {d : DataW H} {p : List MemPlace} {r : Reach} {b0 : Nat} (hv : Value.okWide Tryd.prog W r b0 24 v) (h : DataW.Trod enc Tryd.prog W 0 spare held 24 v d p) :
    ∃ (A : Option Addr) (c : Nat) (l : List (List S40)) (b : Bool), v = .agg #[.slice A l.length c, .bool b] ∧ l.length ≤ c ∧ Kd.C (Kd.slice 40 k40) W A l.length l := by
  obtain ⟨cs, rfl, hsz⟩ := okWide_struct Tryd.underlying24 hv
  obtain ⟨cs⟩ := cs
  obtain ⟨fuel, hf⟩ := h
  have hl : cs.length = 2 := hsz.trans (by kernel_rfl)
  obtain ⟨y0, y1, m, _, _, h0, h1⟩ := trod_struct2 Tryd.underlying24 hf
  match cs, hl with
  | [c0, c1], _ =>
    rw [show Tryd.prog.cellsOf 22 = 1 by kernel_rfl] at h0
    rw [show Tryd.prog.cellsOf 4 = 1 by kernel_rfl] at h1
    obtain ⟨A, cap, l, e, hlc, hC⟩ := read_fields (va := c0) (by simpa [Value.cells] using h0)
    obtain ⟨b, hb, _⟩ := DataW.trod_bool Tryd.underlying4 h1
    obtain rfl : c1 = .bool b := by simpa [Value.cells] using hb
    subst e
    exact ⟨A, cap, l, b, rfl, hlc, hC⟩
end
end Go.Proofs.YthndpmjmnglhfaaDoor.Core
namespace Go.Proofs.YthndpmjmnglhfaaDoor.FnSegmentsRow
open Go.ChangeShapes Go.WideShapes Go.ChangeAt Go.RowKit Go.Proofs.YthndpmjmnglhfaaDoorW.PrintWords Go.Proofs.YthndpmjmnglhfaaDoor.Core
theorem own : ownKnob Tryd.prog.godebug = none := by kernel_rfl
theorem laidOut : laidOutB Tryd.prog = true := by kernel_rfl
set_option maxRecDepth 100000 in
theorem lifted (os : Os) (started : os.Started) (H : Type) (enc : TypeId × Value → H) :
    ReturnsInHanded {} Tryd.checked os 3 .any (fun w args => (Rows.fnSegmentsSpec.pre enc Tryd.prog Tryd.f3 Rows.fnSegmentsRow.domain false w args ∧ laidMetH Tryd.prog Rows.fnSegmentsRow.laid w) ∧ sizedMet enc Tryd.prog Tryd.f3 (OpenSpec.ofChange Rows.fnSegmentsSpec) false w args)
      (Rows.fnSegmentsSpec.post enc Tryd.prog Tryd.f3 false true false false) := by
  refine returnsInHanded_of_change_and (C := Tryd.checked) (X := fun w _ => laidMetH Tryd.prog Rows.fnSegmentsRow.laid w) (fun _ _ _ hh h => h.of_heap hh) own started (by kernel_rfl) Tryd.func3
    (ChangeSpec.witness_shaped (enc := enc) (C := Tryd.checked) (os := os) (X := fun w _ => laidMetH Tryd.prog Rows.fnSegmentsRow.laid w) false (World.laidAll Tryd.prog os Rows.fnSegmentsRow.laid) #[.agg #[.slice none 0 0, .bool false]] 8 (World.laidAll_os _ _ _)
      (World.shaped_of_ZipB (by kernel_rfl) (by kernel_rfl)) (by kernel_rfl) (by kernel_rfl) (by kernel_rfl)
      (by rw [MakeChecks.laidMetH_plain _ _ _ (by kernel_rfl)]; exact laidMet_laidAll _ (by kernel_rfl) (by kernel_rfl))) ?_
  intro W base args ds gs before hval0 hW _ _ _ _
  have hval : ∀ (j : Nat) t v, Tryd.f3.params[j]? = some t → args[j]? = some v → Value.okWide Tryd.prog W .any base t v := hval0
  have hW' := hW
  obtain ⟨p, q, hA0, hV, rfl, _, _⟩ := hW
  have hA : DataW.TrodAll enc Tryd.prog W 0 (fun _ => true) true Tryd.f3.params.toList args.toList ds p := hA0
  rw [Tryd.params3] at hA hval
  obtain ⟨v0, vs0, d0, ds0, p0, q0, hargs, rfl, rfl, h0, r0⟩ := trodAll_cons hA
  obtain ⟨rfl, rfl, rfl⟩ := trodAll_nil r0
  obtain rfl : args = #[v0] := by cases args; simp_all
  obtain ⟨rfl, rfl⟩ := trodVars_none hV
  obtain ⟨A0, c0, l0, b0, rfl, hl0, hC0⟩ := read_expr (hval 0 24 v0 rfl rfl) h0
  have lt0 : ∀ x ∈ p0, x.block < W.heap.size := fun x hx => hW'.lt x (by simp [hx])
  clear hA0 hval0
  obtain ⟨k, hk⟩ := fnSegments_pure l0 b0
  refine (laws_FnSegments.calls k A0 c0 l0 b0 true W hC0 hl0 hk).mono fun e W' ⟨he, bel⟩ => ?_
  subst he
  exact ⟨_, rfl, _, _, _, [], _, [], hW', trodAll_mk1 (shut_bool Tryd.underlying4 _), trodAll_cons_mk (Below.trod laidOut (by kernel_rfl) (of_decide_eq_true (by kernel_rfl)) h0 bel lt0) trodAll_mk0, rfl, bel.frame _, fun h => by cases h⟩
theorem said : Rows.FnSegmentsSaid :=
  OpenClaim.holds_of_wide 3 Tryd.f3 rfl rfl rfl rfl rfl rfl rfl ⟨rfl, rfl, rfl, rfl, rfl⟩ rfl rfl rfl rfl rfl (by kernel_rfl) Tryd.func3 (by kernel_rfl)
    (of_decide_eq_true (by kernel_rfl)) (by unfold Func.isWrapper; first | (rw [if_pos (by decide +kernel)]; kernel_rfl) | (rw [if_neg (by decide +kernel)]; exact ⟨rfl, rfl⟩))
    (fun os started H enc _ => lifted os started H enc)
theorem plain (f : FuncId) (fn : Func) (hf : Tryd.pinned.checked.prog.funcNamed Rows.fnSegmentsRow.func = some f) (hfn : Tryd.pinned.checked.prog.funcs[f]? = some fn) :
    false = Tryd.pinned.checked.prog.looks [] ∧ ∀ (j : Nat) t, fn.params[j]? = some t → Tryd.pinned.checked.prog.wantsStandIn t = false := by
  obtain rfl : f = 3 := Option.some.inj ((show Tryd.prog.funcNamed Rows.fnSegmentsRow.func = some 3 by kernel_rfl).symm.trans hf) |>.symm
  obtain rfl : fn = Tryd.f3 := (Option.some.inj (Tryd.func3.symm.trans hfn)).symm
  refine ⟨by kernel_rfl, fun j t ht => ?_⟩
  rw [Tryd.params3] at ht
  have hm : t ∈ [24] := by simpa using Array.mem_of_getElem? ht
  have hall : ([24].all fun u => !Tryd.prog.wantsStandIn u) = true := by kernel_rfl
  exact (show Tryd.prog.wantsStandIn t = false by simpa using List.all_eq_true.1 hall t hm)
theorem card : Rows.FnSegmentsCardSaid :=
  Claim7.holds_tied_plain_at .later [] _ _ _ _ said (fun _ h => by cases h) (by kernel_rfl) (fun _ h => by cases h) fnSegments_row_tie rfl ⟨rfl, rfl⟩ (by kernel_rfl) rfl plain (by kernel_rfl)
#print axioms card
end Go.Proofs.YthndpmjmnglhfaaDoor.FnSegmentsRow
namespace Go.Proofs.YthndpmjmnglhfaaDoor
theorem fnSegments_holds : Rows.FnSegmentsCardSaid := FnSegmentsRow.card
end Go.Proofs.YthndpmjmnglhfaaDoor
