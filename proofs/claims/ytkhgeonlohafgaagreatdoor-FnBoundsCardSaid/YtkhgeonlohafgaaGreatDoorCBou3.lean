/- Contracts and plain lemmas of this seat (part 3), merged by wip/merge2.py; what is proved stands in the claim's last text. -/
import Derived.Test.YtkhgeonlohafgaaGreatDoorCBou1
import Derived.Test.YtkhgeonlohafgaaGreatDoorCBou2
namespace Go.Proofs.YtkhgeonlohafgaaGreatDoor.Core
open Go.RowKit Go.Proofs.YtkhgeonlohafgaaGreatDoorW.PrintWords Go.Proofs.YtkhgeonlohafgaaGreatDoorW.PrintLast Go.Proofs.YtkhgeonlohafgaaGreatDoorW.PrintMore
attribute [local go_sem] max2_int min2_int max_two min_two max_three min_three max_four min_four   -- for this text's walks alone
set_option linter.unusedVariables false
set_option linter.unusedSimpArgs false
mutual
def gronx_inStep.j0 : Nat → Int → List Int → Bool → Int → List ByteArray → Int → Int → Option (Bool × Option Int)
  | 0, _, _, _, _, _, _, _ => none
  | k + 1, x0, x2, x3, x11, x13, x14, x15 => if (x13.length : Int) > 1 then (if x14 < x15 then (gronx_inStep.j1 k x0 x3 x11 x14 x15 true) else (if 0 < (x2.length : Int) then (if x15 < (rd x2 0) then (gronx_inStep.j1 k x0 x3 x11 x14 x15 true) else (if 1 < (x2.length : Int) then (gronx_inStep.j1 k x0 x3 x11 x14 x15 (decide (x14 > (rd x2 1)))) else (none))) else (none))) else (if 0 < (x2.length : Int) then (if x15 < (rd x2 0) then (gronx_inStep.j1 k x0 x3 x11 x14 x15 true) else (if 1 < (x2.length : Int) then (gronx_inStep.j1 k x0 x3 x11 x14 x15 (decide (x14 > (rd x2 1)))) else (none))) else (none))
def gronx_inStep.j1 : Nat → Int → Bool → Int → Int → Int → Bool → Option (Bool × Option Int)
  | 0, _, _, _, _, _, _ => none
  | k + 1, x0, x3, x11, x14, x15, x98 => if x98 = true then ((errors_New.f (⟨#[115, 116, 101, 112, 32, 111, 117, 116, 32, 111, 102, 32, 98, 111, 117, 110, 100, 115, 40, 44, 32, 41]⟩ : ByteArray)).bind fun t511 => (some (false, t511))) else (if x3 = true then (if x15 = 7 then (gronx_inStep.j2 k x0 x11 x14 x15 (x14 != 7)) else (gronx_inStep.j2 k x0 x11 x14 x15 false)) else ((gronx_inStepRange.f k x0 x15 x14 x11).bind fun t515 => (some (t515, none))))
def gronx_inStep.j2 : Nat → Int → Int → Int → Int → Bool → Option (Bool × Option Int)
  | 0, _, _, _, _, _ => none
  | k + 1, x0, x11, x14, x15, x106 => if x106 = true then (gronx_inStep.j3 k x0 x11 x14 0) else (gronx_inStep.j3 k x0 x11 x14 x15)
def gronx_inStep.j3 : Nat → Int → Int → Int → Int → Option (Bool × Option Int)
  | 0, _, _, _, _ => none
  | k + 1, x0, x11, x14, x15 => if x0 = 0 then ((gronx_inStepRange.f k 0 x15 x14 x11).bind fun t512 => (if t512 = true then (some (true, none)) else ((gronx_inStepRange.f k 7 x15 x14 x11).bind fun t513 => (some (t513, none))))) else ((gronx_inStepRange.f k x0 x15 x14 x11).bind fun t514 => (some (t514, none)))
end
def gronx_inStep.f (k : Nat) (a0 : Int) (a1 : ByteArray) (l2 : List Int) (a3 : Bool) : Option (Bool × Option Int) := (gronx_zzSplit.f k a1 (⟨#[47]⟩ : ByteArray)).bind fun t484 => (if 1 < (t484.length : Int) then ((strconv_Atoi.f (rdOf ByteArray.empty t484 1)).bind fun bt488 => (if bt488.2.isNone = true then (if bt488.1 ≤ 0 then ((errors_New.f (⟨#[115, 116, 101, 112, 32, 99, 97, 110, 39, 116, 32, 98, 101, 32, 48]⟩ : ByteArray)).bind fun t491 => (some (false, t491))) else ((gronx_zzIndex.f k a1 (⟨#[42, 47]⟩ : ByteArray)).bind fun t492 => (if t492 = 0 then (if 0 < (l2.length : Int) then (if bt488.1 = 0 then (none) else (some (((Int.tmod (wrap64 (a0 - (rd l2 0))) bt488.1) == 0), none))) else (none)) else ((gronx_zzIndex.f k a1 (⟨#[48, 47]⟩ : ByteArray)).bind fun t494 => (if t494 = 0 then (if bt488.1 = 0 then (none) else (some (((Int.tmod a0 bt488.1) == 0), none))) else (if 0 < (t484.length : Int) then ((gronx_zzSplit.f k (rdOf ByteArray.empty t484 0) (⟨#[45]⟩ : ByteArray)).bind fun t496 => (if 0 < (t496.length : Int) then ((strconv_Atoi.f (rdOf ByteArray.empty t496 0)).bind fun bt500 => (if bt500.2.isNone = true then (if (t496.length : Int) > 1 then (if 1 < (t496.length : Int) then ((strconv_Atoi.f (rdOf ByteArray.empty t496 1)).bind fun bt504 => (if bt504.2.isNone = true then (gronx_inStep.j0 k a0 l2 a3 bt488.1 t496 bt504.1 bt500.1) else (some (false, some (bt504.2.getD 0))))) else (none)) else (gronx_inStep.j0 k a0 l2 a3 bt488.1 t496 a0 bt500.1)) else (some (false, some (bt500.2.getD 0))))) else (none))) else (none))))))) else (some (false, some (bt488.2.getD 0))))) else (none))
set_option maxHeartbeats 8000000 in
set_option maxRecDepth 100000 in
theorem gronx_inStep.calls (k : Nat) (a0 : Int) (a1 : ByteArray) (A2 : Option Addr) (c2 : Nat) (l2 : List Int) (a3 : Bool) (r1 : Bool) (r2 : Option Int) (w : World) (hr2 : Kd.C (Kd.int .i64) w A2 l2.length l2) (hc2 : l2.length ≤ c2) (h : gronx_inStep.f k a0 a1 l2 a3 = some (r1, r2)) :
    Calls Tryz.prog 86 #[.int .i64 a0, .string a1, .slice A2 l2.length c2, .bool a3] w fun e w' => e = .returned (.tuple #[.bool r1, errW r2]) ∧ Below w.heap.size w w' := by
  have hu71 := Tryz.underlying71
  have HR2 := Aside0.mk hr2
  have HC2 := Aside0.mk hc2
  clear hr2 hc2
  have HB := Aside0.mk (Below.refl w.heap.size w)
  have H : ((gronx_zzSplit.f k a1 (⟨#[47]⟩ : ByteArray)).bind fun t484 => (if 1 < (t484.length : Int) then ((strconv_Atoi.f (rdOf ByteArray.empty t484 1)).bind fun bt488 => (if bt488.2.isNone = true then (if bt488.1 ≤ 0 then ((errors_New.f (⟨#[115, 116, 101, 112, 32, 99, 97, 110, 39, 116, 32, 98, 101, 32, 48]⟩ : ByteArray)).bind fun t491 => (some (false, t491))) else ((gronx_zzIndex.f k a1 (⟨#[42, 47]⟩ : ByteArray)).bind fun t492 => (if t492 = 0 then (if 0 < (l2.length : Int) then (if bt488.1 = 0 then (none) else (some (((Int.tmod (wrap64 (a0 - (rd l2 0))) bt488.1) == 0), none))) else (none)) else ((gronx_zzIndex.f k a1 (⟨#[48, 47]⟩ : ByteArray)).bind fun t494 => (if t494 = 0 then (if bt488.1 = 0 then (none) else (some (((Int.tmod a0 bt488.1) == 0), none))) else (if 0 < (t484.length : Int) then ((gronx_zzSplit.f k (rdOf ByteArray.empty t484 0) (⟨#[45]⟩ : ByteArray)).bind fun t496 => (if 0 < (t496.length : Int) then ((strconv_Atoi.f (rdOf ByteArray.empty t496 0)).bind fun bt500 => (if bt500.2.isNone = true then (if (t496.length : Int) > 1 then (if 1 < (t496.length : Int) then ((strconv_Atoi.f (rdOf ByteArray.empty t496 1)).bind fun bt504 => (if bt504.2.isNone = true then (gronx_inStep.j0 k a0 l2 a3 bt488.1 t496 bt504.1 bt500.1) else (some (false, some (bt504.2.getD 0))))) else (none)) else (gronx_inStep.j0 k a0 l2 a3 bt488.1 t496 a0 bt500.1)) else (some (false, some (bt500.2.getD 0))))) else (none))) else (none))))))) else (some (false, some (bt488.2.getD 0))))) else (none))) = some (r1, r2) := h
  clear h
  replace H := Option.bind_eq_some_iff.mp H
  obtain ⟨t484, A50, H⟩ := H
  replace H : (if 1 < (t484.length : Int) then ((strconv_Atoi.f (rdOf ByteArray.empty t484 1)).bind fun bt488 => (if bt488.2.isNone = true then (if bt488.1 ≤ 0 then ((errors_New.f (⟨#[115, 116, 101, 112, 32, 99, 97, 110, 39, 116, 32, 98, 101, 32, 48]⟩ : ByteArray)).bind fun t491 => (some (false, t491))) else ((gronx_zzIndex.f k a1 (⟨#[42, 47]⟩ : ByteArray)).bind fun t492 => (if t492 = 0 then (if 0 < (l2.length : Int) then (if bt488.1 = 0 then (none) else (some (((Int.tmod (wrap64 (a0 - (rd l2 0))) bt488.1) == 0), none))) else (none)) else ((gronx_zzIndex.f k a1 (⟨#[48, 47]⟩ : ByteArray)).bind fun t494 => (if t494 = 0 then (if bt488.1 = 0 then (none) else (some (((Int.tmod a0 bt488.1) == 0), none))) else (if 0 < (t484.length : Int) then ((gronx_zzSplit.f k (rdOf ByteArray.empty t484 0) (⟨#[45]⟩ : ByteArray)).bind fun t496 => (if 0 < (t496.length : Int) then ((strconv_Atoi.f (rdOf ByteArray.empty t496 0)).bind fun bt500 => (if bt500.2.isNone = true then (if (t496.length : Int) > 1 then (if 1 < (t496.length : Int) then ((strconv_Atoi.f (rdOf ByteArray.empty t496 1)).bind fun bt504 => (if bt504.2.isNone = true then (gronx_inStep.j0 k a0 l2 a3 bt488.1 t496 bt504.1 bt500.1) else (some (false, some (bt504.2.getD 0))))) else (none)) else (gronx_inStep.j0 k a0 l2 a3 bt488.1 t496 a0 bt500.1)) else (some (false, some (bt500.2.getD 0))))) else (none))) else (none))))))) else (some (false, some (bt488.2.getD 0))))) else (none)) = some (r1, r2) := H
  have A5 := Aside0.mk A50
  clear A50
  by_cases c6 : 1 < (t484.length : Int)
  · rw [if_pos c6] at H
    have c6b0 : decide (1 < (t484.length : Int)) = true := decide_eq_true c6
    have c6b1 : decide (1 < t484.length) = true := decide_eq_true (by omega)
    clear c6
    replace H := Option.bind_eq_some_iff.mp H
    obtain ⟨⟨t488, t489⟩, A70, H⟩ := H
    replace H : (if t489.isNone = true then (if t488 ≤ 0 then ((errors_New.f (⟨#[115, 116, 101, 112, 32, 99, 97, 110, 39, 116, 32, 98, 101, 32, 48]⟩ : ByteArray)).bind fun t491 => (some (false, t491))) else ((gronx_zzIndex.f k a1 (⟨#[42, 47]⟩ : ByteArray)).bind fun t492 => (if t492 = 0 then (if 0 < (l2.length : Int) then (if t488 = 0 then (none) else (some (((Int.tmod (wrap64 (a0 - (rd l2 0))) t488) == 0), none))) else (none)) else ((gronx_zzIndex.f k a1 (⟨#[48, 47]⟩ : ByteArray)).bind fun t494 => (if t494 = 0 then (if t488 = 0 then (none) else (some (((Int.tmod a0 t488) == 0), none))) else (if 0 < (t484.length : Int) then ((gronx_zzSplit.f k (rdOf ByteArray.empty t484 0) (⟨#[45]⟩ : ByteArray)).bind fun t496 => (if 0 < (t496.length : Int) then ((strconv_Atoi.f (rdOf ByteArray.empty t496 0)).bind fun bt500 => (if bt500.2.isNone = true then (if (t496.length : Int) > 1 then (if 1 < (t496.length : Int) then ((strconv_Atoi.f (rdOf ByteArray.empty t496 1)).bind fun bt504 => (if bt504.2.isNone = true then (gronx_inStep.j0 k a0 l2 a3 t488 t496 bt504.1 bt500.1) else (some (false, some (bt504.2.getD 0))))) else (none)) else (gronx_inStep.j0 k a0 l2 a3 t488 t496 a0 bt500.1)) else (some (false, some (bt500.2.getD 0))))) else (none))) else (none))))))) else (some (false, some (t489.getD 0)))) = some (r1, r2) := H
    have A7 := Aside0.mk A70
    clear A70
    rcases t489 with _ | q490
    · have H1 : (if t488 ≤ 0 then ((errors_New.f (⟨#[115, 116, 101, 112, 32, 99, 97, 110, 39, 116, 32, 98, 101, 32, 48]⟩ : ByteArray)).bind fun t491 => (some (false, t491))) else ((gronx_zzIndex.f k a1 (⟨#[42, 47]⟩ : ByteArray)).bind fun t492 => (if t492 = 0 then (if 0 < (l2.length : Int) then (if t488 = 0 then (none) else (some (((Int.tmod (wrap64 (a0 - (rd l2 0))) t488) == 0), none))) else (none)) else ((gronx_zzIndex.f k a1 (⟨#[48, 47]⟩ : ByteArray)).bind fun t494 => (if t494 = 0 then (if t488 = 0 then (none) else (some (((Int.tmod a0 t488) == 0), none))) else (if 0 < (t484.length : Int) then ((gronx_zzSplit.f k (rdOf ByteArray.empty t484 0) (⟨#[45]⟩ : ByteArray)).bind fun t496 => (if 0 < (t496.length : Int) then ((strconv_Atoi.f (rdOf ByteArray.empty t496 0)).bind fun bt500 => (if bt500.2.isNone = true then (if (t496.length : Int) > 1 then (if 1 < (t496.length : Int) then ((strconv_Atoi.f (rdOf ByteArray.empty t496 1)).bind fun bt504 => (if bt504.2.isNone = true then (gronx_inStep.j0 k a0 l2 a3 t488 t496 bt504.1 bt500.1) else (some (false, some (bt504.2.getD 0))))) else (none)) else (gronx_inStep.j0 k a0 l2 a3 t488 t496 a0 bt500.1)) else (some (false, some (bt500.2.getD 0))))) else (none))) else (none))))))) = some (r1, r2) := by rw [if_pos (show (none : Option Int).isNone = true by rfl)] at H; exact H
      clear H
      have H := H1
      clear H1
      try simp only [errW_none, errW_some]
      by_cases c8 : t488 ≤ 0
      · rw [if_pos c8] at H
        have c8b0 : decide (t488 ≤ 0) = true := decide_eq_true c8
        clear c8
        replace H := Option.bind_eq_some_iff.mp H
        obtain ⟨t491, A90, H⟩ := H
        replace H : (some (false, t491)) = some (r1, r2) := H
        have A9 := Aside0.mk A90
        clear A90
        simp only [Option.some.injEq, Prod.mk.injEq] at H
        obtain ⟨rfl, rfl⟩ := H
        go_enter Tryz.func86, Tryz.ntmps86
        go_wp2_with (first | ((with_reducible refine gate_callee (f := 54) rfl ?_); refine goesL_ (some 17) rfl rfl Tryz.func54 (by kernel_rfl) rfl #[.string a1, .string (⟨#[47]⟩ : ByteArray)] rfl (by (try simp only [List.map_toArray, List.map_cons, List.map_nil]); first | done | rfl | (simp only [List.length_drop, List.length_take]; rfl)) ?_; (with_reducible refine (gronx_zzSplit.calls k a1 (⟨#[47]⟩ : ByteArray) t484 _ A5.out).mono ?_); rintro e w10 ⟨v485, rfl, ho0, hb⟩; refine ⟨_, rfl, ?_⟩; have n0_ := Aside0.mk (Kd.R_lower ho0 (below_size (by repeat (first | (with_reducible first | exact HB.out | apply below_alloc | apply pw_below_drewN | apply below_drew1) | exact HB.out)))); have n1_ := Aside0.mk (below_step (by repeat (first | (with_reducible first | exact HB.out | apply below_alloc | apply pw_below_drewN | apply below_drew1) | exact HB.out)) hb); clear HB; have HO486 := n0_; have HB := n1_; clear n0_ n1_; (try clear hb); (try clear hb2); (try clear hk); (try clear hi); (try clear ho0); obtain ⟨Ao11, co11, eo11⟩ := Kd.R_slice HO486.out; subst eo11; have p487 : 0 ≤ (1 : Int) := (by omega); have q487 : 1 < (t484.length : Int) := of_decide_eq_true (by first | (with_reducible assumption) | assumption); obtain ⟨ad487, e487, hx487_0⟩ := Kd.at_string (Kd.R_reads' HO486.out).2.2 1 p487 q487; cases e487; (try simp only [show (1 : Int).toNat = 1 from rfl, Nat.reduceMul, Nat.reduceEqDiff, Go.Addr.add, ↓reduceIte] at hx487_0); have qi487 : (1 < t484.length) = True := eq_true (by omega); (try rw [show ((1 : Int)).toNat = 1 from rfl] at hx487_0); replace p487 := eq_true p487; replace q487 := eq_true q487) | ((with_reducible refine gate_callee (f := 88) rfl ?_); refine goesL_ (some 22) rfl rfl Tryz.func88 (by kernel_rfl) rfl #[.string (rdOf ByteArray.empty t484 1)] rfl (by (try simp only [List.map_toArray, List.map_cons, List.map_nil]); first | done | rfl | (simp only [List.length_drop, List.length_take]; rfl)) ?_; (with_reducible refine (strconv_Atoi.calls (rdOf ByteArray.empty t484 1) t488 none _ A7.out).mono ?_); rintro e w12 ⟨rfl, hb⟩; refine ⟨_, rfl, ?_⟩; have n0_ := Aside0.mk (Kd.R_below (by (with_reducible repeat (first | apply Kd.R_alloc | apply Kd.R_drewN | apply Kd.R_drew)); exact HO486.out) hb); have n1_ := Aside0.mk (below_step (by repeat (first | (with_reducible first | exact HB.out | apply below_alloc | apply pw_below_drewN | apply below_drew1) | exact HB.out)) hb); clear HO486; clear HB; have HO486 := n0_; have HB := n1_; clear n0_ n1_; (try clear hb); (try clear hb2); (try clear hk); (try clear hi); (try simp only [errW_none, errW_some])) | ((with_reducible refine gate_callee (f := 51) rfl ?_); refine goesL_ (some 30) rfl rfl Tryz.func51 (by kernel_rfl) rfl #[.string (⟨#[115, 116, 101, 112, 32, 99, 97, 110, 39, 116, 32, 98, 101, 32, 48]⟩ : ByteArray)] rfl (by (try simp only [List.map_toArray, List.map_cons, List.map_nil]); first | done | rfl | (simp only [List.length_drop, List.length_take]; rfl)) ?_; (with_reducible refine (errors_New.calls (⟨#[115, 116, 101, 112, 32, 99, 97, 110, 39, 116, 32, 98, 101, 32, 48]⟩ : ByteArray) t491 _ A9.out).mono ?_); rintro e w13 ⟨rfl, hb⟩; refine ⟨_, rfl, ?_⟩; have n0_ := Aside0.mk (Kd.R_below (by (with_reducible repeat (first | apply Kd.R_alloc | apply Kd.R_drewN | apply Kd.R_drew)); exact HO486.out) hb); have n1_ := Aside0.mk (below_step (by repeat (first | (with_reducible first | exact HB.out | apply below_alloc | apply pw_below_drewN | apply below_drew1) | exact HB.out)) hb); clear HO486; clear HB; have HO486 := n0_; have HB := n1_; clear n0_ n1_; (try clear hb); (try clear hb2); (try clear hk); (try clear hi); (try simp only [errW_none, errW_some])))
        go_ret2
        exact ⟨by first | rfl | (simp [errW_none, errW_some] <;> rfl) | (simp [*, errW_none, errW_some] <;> rfl), by repeat (first | (with_reducible first | exact HB.out | apply below_alloc | apply pw_below_drewN | apply below_drew1) | exact HB.out)⟩
      · rw [if_neg c8] at H
        have c8b0 : decide (t488 ≤ 0) = false := decide_eq_false c8
        clear c8
        replace H := Option.bind_eq_some_iff.mp H
        obtain ⟨t492, A140, H⟩ := H
        replace H : (if t492 = 0 then (if 0 < (l2.length : Int) then (if t488 = 0 then (none) else (some (((Int.tmod (wrap64 (a0 - (rd l2 0))) t488) == 0), none))) else (none)) else ((gronx_zzIndex.f k a1 (⟨#[48, 47]⟩ : ByteArray)).bind fun t494 => (if t494 = 0 then (if t488 = 0 then (none) else (some (((Int.tmod a0 t488) == 0), none))) else (if 0 < (t484.length : Int) then ((gronx_zzSplit.f k (rdOf ByteArray.empty t484 0) (⟨#[45]⟩ : ByteArray)).bind fun t496 => (if 0 < (t496.length : Int) then ((strconv_Atoi.f (rdOf ByteArray.empty t496 0)).bind fun bt500 => (if bt500.2.isNone = true then (if (t496.length : Int) > 1 then (if 1 < (t496.length : Int) then ((strconv_Atoi.f (rdOf ByteArray.empty t496 1)).bind fun bt504 => (if bt504.2.isNone = true then (gronx_inStep.j0 k a0 l2 a3 t488 t496 bt504.1 bt500.1) else (some (false, some (bt504.2.getD 0))))) else (none)) else (gronx_inStep.j0 k a0 l2 a3 t488 t496 a0 bt500.1)) else (some (false, some (bt500.2.getD 0))))) else (none))) else (none))))) = some (r1, r2) := H
        have A14 := Aside0.mk A140
        clear A140
        by_cases c15 : t492 = 0
        · rw [if_pos c15] at H
          have c15b0 : (t492 == 0) = true := beq_iff_eq.mpr c15
          have c15b1 : (t492 != 0) = false := bne_eq_false_iff_eq.mpr c15
          clear c15
          by_cases c16 : 0 < (l2.length : Int)
          · rw [if_pos c16] at H
            have c16b0 : decide (0 < (l2.length : Int)) = true := decide_eq_true c16
            have c16b1 : decide (0 < l2.length) = true := decide_eq_true (by omega)
            clear c16
            by_cases c17 : t488 = 0
            · rw [if_pos c17] at H
              exact absurd H (by simp)
            · rw [if_neg c17] at H
              have c17b0 : (t488 == 0) = false := beq_eq_false_iff_ne.mpr c17
              have c17b1 : (t488 != 0) = true := bne_iff_ne.mpr c17
              simp only [Option.some.injEq, Prod.mk.injEq] at H
              obtain ⟨rfl, rfl⟩ := H
              go_enter Tryz.func86, Tryz.ntmps86
              go_wp2_with (first | ((with_reducible refine gate_callee (f := 54) rfl ?_); refine goesL_ (some 17) rfl rfl Tryz.func54 (by kernel_rfl) rfl #[.string a1, .string (⟨#[47]⟩ : ByteArray)] rfl (by (try simp only [List.map_toArray, List.map_cons, List.map_nil]); first | done | rfl | (simp only [List.length_drop, List.length_take]; rfl)) ?_; (with_reducible refine (gronx_zzSplit.calls k a1 (⟨#[47]⟩ : ByteArray) t484 _ A5.out).mono ?_); rintro e w18 ⟨v485, rfl, ho0, hb⟩; refine ⟨_, rfl, ?_⟩; have n0_ := Aside0.mk (Kd.R_lower ho0 (below_size (by repeat (first | (with_reducible first | exact HB.out | apply below_alloc | apply pw_below_drewN | apply below_drew1) | exact HB.out)))); have n1_ := Aside0.mk (below_step (by repeat (first | (with_reducible first | exact HB.out | apply below_alloc | apply pw_below_drewN | apply below_drew1) | exact HB.out)) hb); clear HB; have HO486 := n0_; have HB := n1_; clear n0_ n1_; (try clear hb); (try clear hb2); (try clear hk); (try clear hi); (try clear ho0); obtain ⟨Ao19, co19, eo19⟩ := Kd.R_slice HO486.out; subst eo19; have p487 : 0 ≤ (1 : Int) := (by omega); have q487 : 1 < (t484.length : Int) := of_decide_eq_true (by first | (with_reducible assumption) | assumption); obtain ⟨ad487, e487, hx487_0⟩ := Kd.at_string (Kd.R_reads' HO486.out).2.2 1 p487 q487; cases e487; (try simp only [show (1 : Int).toNat = 1 from rfl, Nat.reduceMul, Nat.reduceEqDiff, Go.Addr.add, ↓reduceIte] at hx487_0); have qi487 : (1 < t484.length) = True := eq_true (by omega); (try rw [show ((1 : Int)).toNat = 1 from rfl] at hx487_0); replace p487 := eq_true p487; replace q487 := eq_true q487) | ((with_reducible refine gate_callee (f := 88) rfl ?_); refine goesL_ (some 22) rfl rfl Tryz.func88 (by kernel_rfl) rfl #[.string (rdOf ByteArray.empty t484 1)] rfl (by (try simp only [List.map_toArray, List.map_cons, List.map_nil]); first | done | rfl | (simp only [List.length_drop, List.length_take]; rfl)) ?_; (with_reducible refine (strconv_Atoi.calls (rdOf ByteArray.empty t484 1) t488 none _ A7.out).mono ?_); rintro e w20 ⟨rfl, hb⟩; refine ⟨_, rfl, ?_⟩; have n0_ := Aside0.mk (Kd.R_below (by (with_reducible repeat (first | apply Kd.R_alloc | apply Kd.R_drewN | apply Kd.R_drew)); exact HO486.out) hb); have n1_ := Aside0.mk (below_step (by repeat (first | (with_reducible first | exact HB.out | apply below_alloc | apply pw_below_drewN | apply below_drew1) | exact HB.out)) hb); clear HO486; clear HB; have HO486 := n0_; have HB := n1_; clear n0_ n1_; (try clear hb); (try clear hb2); (try clear hk); (try clear hi); (try simp only [errW_none, errW_some])) | ((with_reducible refine gate_callee (f := 80) rfl ?_); refine goesL_ (some 32) rfl rfl Tryz.func80 (by kernel_rfl) rfl #[.string a1, .string (⟨#[42, 47]⟩ : ByteArray)] rfl (by (try simp only [List.map_toArray, List.map_cons, List.map_nil]); first | done | rfl | (simp only [List.length_drop, List.length_take]; rfl)) ?_; (with_reducible refine (gronx_zzIndex.calls k a1 (⟨#[42, 47]⟩ : ByteArray) t492 _ A14.out).mono ?_); rintro e w' ⟨rfl, ⟨nd, rfl⟩⟩; refine ⟨_, rfl, ?_⟩; have p493 : 0 ≤ (0 : Int) := (by omega); have q493 : 0 < (l2.length : Int) := of_decide_eq_true (by first | (with_reducible assumption) | assumption); obtain ⟨ad493, e493, hx493_0⟩ := Kd.at_int HR2.out 0 p493 q493; cases e493; have qi493 : (0 < l2.length) = True := eq_true (by omega); (try rw [show ((0 : Int)).toNat = 0 from rfl] at hx493_0); (try rw [Addr.add_zero'] at hx493_0); replace hx493_0 := (HB.out.cell (World.block_lt_of_cell? w _ hx493_0)).trans hx493_0; replace p493 := eq_true p493; replace q493 := eq_true q493))
              go_ret2
              exact ⟨by first | rfl | (simp [errW_none, errW_some] <;> rfl) | (simp [*, errW_none, errW_some] <;> rfl), by repeat (first | (with_reducible first | exact HB.out | apply below_alloc | apply pw_below_drewN | apply below_drew1) | exact HB.out)⟩
          · rw [if_neg c16] at H
            exact absurd H (by simp)
        · rw [if_neg c15] at H
          have c15b0 : (t492 == 0) = false := beq_eq_false_iff_ne.mpr c15
          have c15b1 : (t492 != 0) = true := bne_iff_ne.mpr c15
          replace H := Option.bind_eq_some_iff.mp H
          obtain ⟨t494, A210, H⟩ := H
          replace H : (if t494 = 0 then (if t488 = 0 then (none) else (some (((Int.tmod a0 t488) == 0), none))) else (if 0 < (t484.length : Int) then ((gronx_zzSplit.f k (rdOf ByteArray.empty t484 0) (⟨#[45]⟩ : ByteArray)).bind fun t496 => (if 0 < (t496.length : Int) then ((strconv_Atoi.f (rdOf ByteArray.empty t496 0)).bind fun bt500 => (if bt500.2.isNone = true then (if (t496.length : Int) > 1 then (if 1 < (t496.length : Int) then ((strconv_Atoi.f (rdOf ByteArray.empty t496 1)).bind fun bt504 => (if bt504.2.isNone = true then (gronx_inStep.j0 k a0 l2 a3 t488 t496 bt504.1 bt500.1) else (some (false, some (bt504.2.getD 0))))) else (none)) else (gronx_inStep.j0 k a0 l2 a3 t488 t496 a0 bt500.1)) else (some (false, some (bt500.2.getD 0))))) else (none))) else (none))) = some (r1, r2) := H
          have A21 := Aside0.mk A210
          clear A210
          by_cases c22 : t494 = 0
          · rw [if_pos c22] at H
            have c22b0 : (t494 == 0) = true := beq_iff_eq.mpr c22
            have c22b1 : (t494 != 0) = false := bne_eq_false_iff_eq.mpr c22
            clear c22
            by_cases c23 : t488 = 0
            · rw [if_pos c23] at H
              exact absurd H (by simp)
            · rw [if_neg c23] at H
              have c23b0 : (t488 == 0) = false := beq_eq_false_iff_ne.mpr c23
              have c23b1 : (t488 != 0) = true := bne_iff_ne.mpr c23
              simp only [Option.some.injEq, Prod.mk.injEq] at H
              obtain ⟨rfl, rfl⟩ := H
              go_enter Tryz.func86, Tryz.ntmps86
              go_wp2_with (first | ((with_reducible refine gate_callee (f := 54) rfl ?_); refine goesL_ (some 17) rfl rfl Tryz.func54 (by kernel_rfl) rfl #[.string a1, .string (⟨#[47]⟩ : ByteArray)] rfl (by (try simp only [List.map_toArray, List.map_cons, List.map_nil]); first | done | rfl | (simp only [List.length_drop, List.length_take]; rfl)) ?_; (with_reducible refine (gronx_zzSplit.calls k a1 (⟨#[47]⟩ : ByteArray) t484 _ A5.out).mono ?_); rintro e w24 ⟨v485, rfl, ho0, hb⟩; refine ⟨_, rfl, ?_⟩; have n0_ := Aside0.mk (Kd.R_lower ho0 (below_size (by repeat (first | (with_reducible first | exact HB.out | apply below_alloc | apply pw_below_drewN | apply below_drew1) | exact HB.out)))); have n1_ := Aside0.mk (below_step (by repeat (first | (with_reducible first | exact HB.out | apply below_alloc | apply pw_below_drewN | apply below_drew1) | exact HB.out)) hb); clear HB; have HO486 := n0_; have HB := n1_; clear n0_ n1_; (try clear hb); (try clear hb2); (try clear hk); (try clear hi); (try clear ho0); obtain ⟨Ao25, co25, eo25⟩ := Kd.R_slice HO486.out; subst eo25; have p487 : 0 ≤ (1 : Int) := (by omega); have q487 : 1 < (t484.length : Int) := of_decide_eq_true (by first | (with_reducible assumption) | assumption); obtain ⟨ad487, e487, hx487_0⟩ := Kd.at_string (Kd.R_reads' HO486.out).2.2 1 p487 q487; cases e487; (try simp only [show (1 : Int).toNat = 1 from rfl, Nat.reduceMul, Nat.reduceEqDiff, Go.Addr.add, ↓reduceIte] at hx487_0); have qi487 : (1 < t484.length) = True := eq_true (by omega); (try rw [show ((1 : Int)).toNat = 1 from rfl] at hx487_0); replace p487 := eq_true p487; replace q487 := eq_true q487) | ((with_reducible refine gate_callee (f := 88) rfl ?_); refine goesL_ (some 22) rfl rfl Tryz.func88 (by kernel_rfl) rfl #[.string (rdOf ByteArray.empty t484 1)] rfl (by (try simp only [List.map_toArray, List.map_cons, List.map_nil]); first | done | rfl | (simp only [List.length_drop, List.length_take]; rfl)) ?_; (with_reducible refine (strconv_Atoi.calls (rdOf ByteArray.empty t484 1) t488 none _ A7.out).mono ?_); rintro e w26 ⟨rfl, hb⟩; refine ⟨_, rfl, ?_⟩; have n0_ := Aside0.mk (Kd.R_below (by (with_reducible repeat (first | apply Kd.R_alloc | apply Kd.R_drewN | apply Kd.R_drew)); exact HO486.out) hb); have n1_ := Aside0.mk (below_step (by repeat (first | (with_reducible first | exact HB.out | apply below_alloc | apply pw_below_drewN | apply below_drew1) | exact HB.out)) hb); clear HO486; clear HB; have HO486 := n0_; have HB := n1_; clear n0_ n1_; (try clear hb); (try clear hb2); (try clear hk); (try clear hi); (try simp only [errW_none, errW_some])) | ((with_reducible refine gate_callee (f := 80) rfl ?_); refine goesL_ (some 32) rfl rfl Tryz.func80 (by kernel_rfl) rfl #[.string a1, .string (⟨#[42, 47]⟩ : ByteArray)] rfl (by (try simp only [List.map_toArray, List.map_cons, List.map_nil]); first | done | rfl | (simp only [List.length_drop, List.length_take]; rfl)) ?_; (with_reducible refine (gronx_zzIndex.calls k a1 (⟨#[42, 47]⟩ : ByteArray) t492 _ A14.out).mono ?_); rintro e w' ⟨rfl, ⟨nd, rfl⟩⟩; refine ⟨_, rfl, ?_⟩) | ((with_reducible refine gate_callee (f := 80) rfl ?_); refine goesL_ (some 43) rfl rfl Tryz.func80 (by kernel_rfl) rfl #[.string a1, .string (⟨#[48, 47]⟩ : ByteArray)] rfl (by (try simp only [List.map_toArray, List.map_cons, List.map_nil]); first | done | rfl | (simp only [List.length_drop, List.length_take]; rfl)) ?_; (with_reducible refine (gronx_zzIndex.calls k a1 (⟨#[48, 47]⟩ : ByteArray) t494 _ A21.out).mono ?_); rintro e w' ⟨rfl, ⟨nd, rfl⟩⟩; refine ⟨_, rfl, ?_⟩))
              go_ret2
              exact ⟨by first | rfl | (simp [errW_none, errW_some] <;> rfl) | (simp [*, errW_none, errW_some] <;> rfl), by repeat (first | (with_reducible first | exact HB.out | apply below_alloc | apply pw_below_drewN | apply below_drew1) | exact HB.out)⟩
          · rw [if_neg c22] at H
            have c22b0 : (t494 == 0) = false := beq_eq_false_iff_ne.mpr c22
            have c22b1 : (t494 != 0) = true := bne_iff_ne.mpr c22
            by_cases c27 : 0 < (t484.length : Int)
            · rw [if_pos c27] at H
              have c27b0 : decide (0 < (t484.length : Int)) = true := decide_eq_true c27
              have c27b1 : decide (0 < t484.length) = true := decide_eq_true (by omega)
              clear c27
              replace H := Option.bind_eq_some_iff.mp H
              obtain ⟨t496, A280, H⟩ := H
              replace H : (if 0 < (t496.length : Int) then ((strconv_Atoi.f (rdOf ByteArray.empty t496 0)).bind fun bt500 => (if bt500.2.isNone = true then (if (t496.length : Int) > 1 then (if 1 < (t496.length : Int) then ((strconv_Atoi.f (rdOf ByteArray.empty t496 1)).bind fun bt504 => (if bt504.2.isNone = true then (gronx_inStep.j0 k a0 l2 a3 t488 t496 bt504.1 bt500.1) else (some (false, some (bt504.2.getD 0))))) else (none)) else (gronx_inStep.j0 k a0 l2 a3 t488 t496 a0 bt500.1)) else (some (false, some (bt500.2.getD 0))))) else (none)) = some (r1, r2) := H
              have A28 := Aside0.mk A280
              clear A280
              by_cases c29 : 0 < (t496.length : Int)
              · rw [if_pos c29] at H
                have c29b0 : decide (0 < (t496.length : Int)) = true := decide_eq_true c29
                have c29b1 : decide (0 < t496.length) = true := decide_eq_true (by omega)
                clear c29
                replace H := Option.bind_eq_some_iff.mp H
                obtain ⟨⟨t500, t501⟩, A300, H⟩ := H
                replace H : (if t501.isNone = true then (if (t496.length : Int) > 1 then (if 1 < (t496.length : Int) then ((strconv_Atoi.f (rdOf ByteArray.empty t496 1)).bind fun bt504 => (if bt504.2.isNone = true then (gronx_inStep.j0 k a0 l2 a3 t488 t496 bt504.1 t500) else (some (false, some (bt504.2.getD 0))))) else (none)) else (gronx_inStep.j0 k a0 l2 a3 t488 t496 a0 t500)) else (some (false, some (t501.getD 0)))) = some (r1, r2) := H
                have A30 := Aside0.mk A300
                clear A300
                rcases t501 with _ | q502
                · have H1 : (if (t496.length : Int) > 1 then (if 1 < (t496.length : Int) then ((strconv_Atoi.f (rdOf ByteArray.empty t496 1)).bind fun bt504 => (if bt504.2.isNone = true then (gronx_inStep.j0 k a0 l2 a3 t488 t496 bt504.1 t500) else (some (false, some (bt504.2.getD 0))))) else (none)) else (gronx_inStep.j0 k a0 l2 a3 t488 t496 a0 t500)) = some (r1, r2) := by rw [if_pos (show (none : Option Int).isNone = true by rfl)] at H; exact H
                  clear H
                  have H := H1
                  clear H1
                  try simp only [errW_none, errW_some]
                  have HC31 := Aside0.mk H
                  clear H
                  go_enter Tryz.func86, Tryz.ntmps86
                  go_upto_if 66 with (first | ((with_reducible refine gate_callee (f := 54) rfl ?_); refine goesL_ (some 17) rfl rfl Tryz.func54 (by kernel_rfl) rfl #[.string a1, .string (⟨#[47]⟩ : ByteArray)] rfl (by (try simp only [List.map_toArray, List.map_cons, List.map_nil]); first | done | rfl | (simp only [List.length_drop, List.length_take]; rfl)) ?_; (with_reducible refine (gronx_zzSplit.calls k a1 (⟨#[47]⟩ : ByteArray) t484 _ A5.out).mono ?_); rintro e w32 ⟨v485, rfl, ho0, hb⟩; refine ⟨_, rfl, ?_⟩; have n0_ := Aside0.mk (Kd.R_lower ho0 (below_size (by repeat (first | (with_reducible first | exact HB.out | apply below_alloc | apply pw_below_drewN | apply below_drew1) | exact HB.out)))); have n1_ := Aside0.mk (below_step (by repeat (first | (with_reducible first | exact HB.out | apply below_alloc | apply pw_below_drewN | apply below_drew1) | exact HB.out)) hb); clear HB; have HO486 := n0_; have HB := n1_; clear n0_ n1_; (try clear hb); (try clear hb2); (try clear hk); (try clear hi); (try clear ho0); obtain ⟨Ao33, co33, eo33⟩ := Kd.R_slice HO486.out; subst eo33; have p487 : 0 ≤ (1 : Int) := (by omega); have q487 : 1 < (t484.length : Int) := of_decide_eq_true (by first | (with_reducible assumption) | assumption); obtain ⟨ad487, e487, hx487_0⟩ := Kd.at_string (Kd.R_reads' HO486.out).2.2 1 p487 q487; cases e487; (try simp only [show (1 : Int).toNat = 1 from rfl, Nat.reduceMul, Nat.reduceEqDiff, Go.Addr.add, ↓reduceIte] at hx487_0); have qi487 : (1 < t484.length) = True := eq_true (by omega); (try rw [show ((1 : Int)).toNat = 1 from rfl] at hx487_0); replace p487 := eq_true p487; replace q487 := eq_true q487) | ((with_reducible refine gate_callee (f := 88) rfl ?_); refine goesL_ (some 22) rfl rfl Tryz.func88 (by kernel_rfl) rfl #[.string (rdOf ByteArray.empty t484 1)] rfl (by (try simp only [List.map_toArray, List.map_cons, List.map_nil]); first | done | rfl | (simp only [List.length_drop, List.length_take]; rfl)) ?_; (with_reducible refine (strconv_Atoi.calls (rdOf ByteArray.empty t484 1) t488 none _ A7.out).mono ?_); rintro e w34 ⟨rfl, hb⟩; refine ⟨_, rfl, ?_⟩; have n0_ := Aside0.mk (Kd.R_below (by (with_reducible repeat (first | apply Kd.R_alloc | apply Kd.R_drewN | apply Kd.R_drew)); exact HO486.out) hb); have n1_ := Aside0.mk (below_step (by repeat (first | (with_reducible first | exact HB.out | apply below_alloc | apply pw_below_drewN | apply below_drew1) | exact HB.out)) hb); clear HO486; clear HB; have HO486 := n0_; have HB := n1_; clear n0_ n1_; (try clear hb); (try clear hb2); (try clear hk); (try clear hi); (try simp only [errW_none, errW_some])) | ((with_reducible refine gate_callee (f := 80) rfl ?_); refine goesL_ (some 32) rfl rfl Tryz.func80 (by kernel_rfl) rfl #[.string a1, .string (⟨#[42, 47]⟩ : ByteArray)] rfl (by (try simp only [List.map_toArray, List.map_cons, List.map_nil]); first | done | rfl | (simp only [List.length_drop, List.length_take]; rfl)) ?_; (with_reducible refine (gronx_zzIndex.calls k a1 (⟨#[42, 47]⟩ : ByteArray) t492 _ A14.out).mono ?_); rintro e w' ⟨rfl, ⟨nd, rfl⟩⟩; refine ⟨_, rfl, ?_⟩) | ((with_reducible refine gate_callee (f := 80) rfl ?_); refine goesL_ (some 43) rfl rfl Tryz.func80 (by kernel_rfl) rfl #[.string a1, .string (⟨#[48, 47]⟩ : ByteArray)] rfl (by (try simp only [List.map_toArray, List.map_cons, List.map_nil]); first | done | rfl | (simp only [List.length_drop, List.length_take]; rfl)) ?_; (with_reducible refine (gronx_zzIndex.calls k a1 (⟨#[48, 47]⟩ : ByteArray) t494 _ A21.out).mono ?_); rintro e w' ⟨rfl, ⟨nd, rfl⟩⟩; refine ⟨_, rfl, ?_⟩; have p495 : 0 ≤ (0 : Int) := (by omega); have q495 : 0 < (t484.length : Int) := of_decide_eq_true (by first | (with_reducible assumption) | assumption); obtain ⟨ad495, e495, hx495_0⟩ := Kd.at_string (Kd.R_reads' HO486.out).2.2 0 p495 q495; obtain rfl : ad487 = ad495 := (by injection e495); have qi495 : (0 < t484.length) = True := eq_true (by omega); (try rw [show ((0 : Int)).toNat = 0 from rfl] at hx495_0); (try rw [Addr.add_zero'] at hx495_0); replace p495 := eq_true p495; replace q495 := eq_true q495) | ((with_reducible refine gate_callee (f := 54) rfl ?_); refine goesL_ (some 52) rfl rfl Tryz.func54 (by kernel_rfl) rfl #[.string (rdOf ByteArray.empty t484 0), .string (⟨#[45]⟩ : ByteArray)] rfl (by (try simp only [List.map_toArray, List.map_cons, List.map_nil]); first | done | rfl | (simp only [List.length_drop, List.length_take]; rfl)) ?_; (with_reducible refine (gronx_zzSplit.calls k (rdOf ByteArray.empty t484 0) (⟨#[45]⟩ : ByteArray) t496 _ A28.out).mono ?_); rintro e w35 ⟨v497, rfl, ho0, hb⟩; refine ⟨_, rfl, ?_⟩; have n0_ := Aside0.mk (Kd.R_elder' (by (with_reducible repeat (first | apply Kd.R_alloc | apply Kd.R_drewN | apply Kd.R_drew)); exact HO486.out) (Kd.R_base ho0) hb); have n1_ := Aside0.mk (Kd.R_lower (Kd.R_new' ho0 (Kd.R_lt (by (with_reducible repeat (first | apply Kd.R_alloc | apply Kd.R_drewN | apply Kd.R_drew)); exact HO486.out))) (below_size (by repeat (first | (with_reducible first | exact HB.out | apply below_alloc | apply pw_below_drewN | apply below_drew1) | exact HB.out)))); have n2_ := Aside0.mk (below_step (by repeat (first | (with_reducible first | exact HB.out | apply below_alloc | apply pw_below_drewN | apply below_drew1) | exact HB.out)) hb); clear HO486; clear HB; have HO486 := n0_; have HO498 := n1_; have HB := n2_; clear n0_ n1_ n2_; (try clear hb); (try clear hb2); (try clear hk); (try clear hi); (try clear ho0); obtain ⟨Ao36, co36, eo36⟩ := Kd.R_slice HO498.out; subst eo36; have p499 : 0 ≤ (0 : Int) := (by omega); have q499 : 0 < (t496.length : Int) := of_decide_eq_true (by first | (with_reducible assumption) | assumption); obtain ⟨ad499, e499, hx499_0⟩ := Kd.at_string (Kd.R_reads' HO498.out).2.2 0 p499 q499; cases e499; have qi499 : (0 < t496.length) = True := eq_true (by omega); (try rw [show ((0 : Int)).toNat = 0 from rfl] at hx499_0); (try rw [Addr.add_zero'] at hx499_0); replace p499 := eq_true p499; replace q499 := eq_true q499) | ((with_reducible refine gate_callee (f := 88) rfl ?_); refine goesL_ (some 58) rfl rfl Tryz.func88 (by kernel_rfl) rfl #[.string (rdOf ByteArray.empty t496 0)] rfl (by (try simp only [List.map_toArray, List.map_cons, List.map_nil]); first | done | rfl | (simp only [List.length_drop, List.length_take]; rfl)) ?_; (with_reducible refine (strconv_Atoi.calls (rdOf ByteArray.empty t496 0) t500 none _ A30.out).mono ?_); rintro e w37 ⟨rfl, hb⟩; refine ⟨_, rfl, ?_⟩; have n0_ := Aside0.mk (Kd.R_below (by (with_reducible repeat (first | apply Kd.R_alloc | apply Kd.R_drewN | apply Kd.R_drew)); exact HO486.out) hb); have n1_ := Aside0.mk (Kd.R_below (by (with_reducible repeat (first | apply Kd.R_alloc | apply Kd.R_drewN | apply Kd.R_drew)); exact HO498.out) hb); have n2_ := Aside0.mk (below_step (by repeat (first | (with_reducible first | exact HB.out | apply below_alloc | apply pw_below_drewN | apply below_drew1) | exact HB.out)) hb); clear HO486; clear HO498; clear HB; have HO486 := n0_; have HO498 := n1_; have HB := n2_; clear n0_ n1_ n2_; (try clear hb); (try clear hb2); (try clear hk); (try clear hi); (try simp only [errW_none, errW_some])))
                  (try simp only [Act.put, List.setIfInBounds_toArray, List.set_cons_zero, List.set_cons_succ])
                  go_cut [14] (fun v14 wc => ∃ (kq : Nat) (x14_30 : Int), v14 = .int .i64 x14_30 ∧ Aside0 (gronx_inStep.j0 kq a0 l2 a3 t488 t496 x14_30 t500 = some (r1, r2)) ∧ Aside0 (kq ≤ k) ∧ Aside0 (Kd.R Kd.string 9 wc w.heap.size (fun _ => True) (.slice (some ad499) t496.length co36) t496) ∧ Aside0 (Below w.heap.size w wc))
                  case first =>
                    have H := HC31.out
                    clear HC31
                    by_cases c38 : (t496.length : Int) > 1
                    · rw [if_pos c38] at H
                      have c38b0 : decide (1 < (t496.length : Int)) = true := decide_eq_true c38
                      have c38b1 : decide (1 < t496.length) = true := decide_eq_true (by omega)
                      clear c38
                      (first | rw [c38b0] | (simp only [i64_w, i32_w]; rw [c38b0]) | skip)
                      by_cases c39 : 1 < (t496.length : Int)
                      · rw [if_pos c39] at H
                        have c39b0 : decide (1 < (t496.length : Int)) = true := decide_eq_true c39
                        have c39b1 : decide (1 < t496.length) = true := decide_eq_true (by omega)
                        clear c39
                        replace H := Option.bind_eq_some_iff.mp H
                        obtain ⟨⟨t504, t505⟩, A400, H⟩ := H
                        replace H : (if t505.isNone = true then (gronx_inStep.j0 k a0 l2 a3 t488 t496 t504 t500) else (some (false, some (t505.getD 0)))) = some (r1, r2) := H
                        have A40 := Aside0.mk A400
                        clear A400
                        rcases t505 with _ | q506
                        · have H1 : (gronx_inStep.j0 k a0 l2 a3 t488 t496 t504 t500) = some (r1, r2) := by rw [if_pos (show (none : Option Int).isNone = true by rfl)] at H; exact H
                          clear H
                          have H := H1
                          clear H1
                          try simp only [errW_none, errW_some]
                          have H' := Aside0.mk H
                          clear H
                          have p503 : 0 ≤ (1 : Int) := (by omega)
                          have q503 : 1 < (t496.length : Int) := of_decide_eq_true (by first | (with_reducible assumption) | assumption)
                          obtain ⟨ad503, e503, hx503_0⟩ := Kd.at_string (Kd.R_reads' HO498.out).2.2 1 p503 q503
                          obtain rfl : ad499 = ad503 := (by injection e503)
                          (try simp only [show (1 : Int).toNat = 1 from rfl, Nat.reduceMul, Nat.reduceEqDiff, Go.Addr.add, ↓reduceIte] at hx503_0)
                          have qi503 : (1 < t496.length) = True := eq_true (by omega)
                          (try rw [show ((1 : Int)).toNat = 1 from rfl] at hx503_0)
                          replace p503 := eq_true p503
                          replace q503 := eq_true q503
                          go_wp2_with (first | ((with_reducible refine gate_callee (f := 88) rfl ?_); refine goesL_ (some 71) rfl rfl Tryz.func88 (by kernel_rfl) rfl #[.string (rdOf ByteArray.empty t496 1)] rfl (by (try simp only [List.map_toArray, List.map_cons, List.map_nil]); first | done | rfl | (simp only [List.length_drop, List.length_take]; rfl)) ?_; (with_reducible refine (strconv_Atoi.calls (rdOf ByteArray.empty t496 1) t504 none _ A40.out).mono ?_); rintro e w41 ⟨rfl, hb⟩; refine ⟨_, rfl, ?_⟩; have n0_ := Aside0.mk (Kd.R_below (by (with_reducible repeat (first | apply Kd.R_alloc | apply Kd.R_drewN | apply Kd.R_drew)); exact HO486.out) hb); have n1_ := Aside0.mk (Kd.R_below (by (with_reducible repeat (first | apply Kd.R_alloc | apply Kd.R_drewN | apply Kd.R_drew)); exact HO498.out) hb); have n2_ := Aside0.mk (below_step (by repeat (first | (with_reducible first | exact HB.out | apply below_alloc | apply pw_below_drewN | apply below_drew1) | exact HB.out)) hb); clear HO486; clear HO498; clear HB; have HO486 := n0_; have HO498 := n1_; have HB := n2_; clear n0_ n1_ n2_; (try clear hb); (try clear hb2); (try clear hk); (try clear hi); (try simp only [errW_none, errW_some])))
                          go_meet
                          case rel => exact ⟨_, (t504), (by first | rfl | (simp; done) | (simp [*]; done)), H', ⟨by first | omega | exact Nat.le_refl _⟩, ⟨by (with_reducible repeat (first | apply Kd.R_alloc | apply Kd.R_drewN | apply Kd.R_drew)); exact Kd.R_mono HO498.out (fun _ hk => trivial)⟩, ⟨by repeat (first | (with_reducible first | exact HB.out | apply below_alloc | apply pw_below_drewN | apply below_drew1) | exact HB.out)⟩⟩
                        · have H1 : (some (false, some q506)) = some (r1, r2) := by rw [if_neg (show ¬ (some q506).isNone = true by simp)] at H; exact H
                          clear H
                          have H := H1
                          clear H1
                          try simp only [errW_none, errW_some]
                          simp only [Option.some.injEq, Prod.mk.injEq] at H
                          obtain ⟨rfl, rfl⟩ := H
                          have p503 : 0 ≤ (1 : Int) := (by omega)
                          have q503 : 1 < (t496.length : Int) := of_decide_eq_true (by first | (with_reducible assumption) | assumption)
                          obtain ⟨ad503, e503, hx503_0⟩ := Kd.at_string (Kd.R_reads' HO498.out).2.2 1 p503 q503
                          obtain rfl : ad499 = ad503 := (by injection e503)
                          (try simp only [show (1 : Int).toNat = 1 from rfl, Nat.reduceMul, Nat.reduceEqDiff, Go.Addr.add, ↓reduceIte] at hx503_0)
                          have qi503 : (1 < t496.length) = True := eq_true (by omega)
                          (try rw [show ((1 : Int)).toNat = 1 from rfl] at hx503_0)
                          replace p503 := eq_true p503
                          replace q503 := eq_true q503
                          go_wp2_with (first | ((with_reducible refine gate_callee (f := 88) rfl ?_); refine goesL_ (some 71) rfl rfl Tryz.func88 (by kernel_rfl) rfl #[.string (rdOf ByteArray.empty t496 1)] rfl (by (try simp only [List.map_toArray, List.map_cons, List.map_nil]); first | done | rfl | (simp only [List.length_drop, List.length_take]; rfl)) ?_; (with_reducible refine (strconv_Atoi.calls (rdOf ByteArray.empty t496 1) t504 (some q506) _ A40.out).mono ?_); rintro e w42 ⟨rfl, hb⟩; refine ⟨_, rfl, ?_⟩; have n0_ := Aside0.mk (Kd.R_below (by (with_reducible repeat (first | apply Kd.R_alloc | apply Kd.R_drewN | apply Kd.R_drew)); exact HO486.out) hb); have n1_ := Aside0.mk (Kd.R_below (by (with_reducible repeat (first | apply Kd.R_alloc | apply Kd.R_drewN | apply Kd.R_drew)); exact HO498.out) hb); have n2_ := Aside0.mk (below_step (by repeat (first | (with_reducible first | exact HB.out | apply below_alloc | apply pw_below_drewN | apply below_drew1) | exact HB.out)) hb); clear HO486; clear HO498; clear HB; have HO486 := n0_; have HO498 := n1_; have HB := n2_; clear n0_ n1_ n2_; (try clear hb); (try clear hb2); (try clear hk); (try clear hi); (try simp only [errW_none, errW_some])))
                          go_ret2
                          exact ⟨by first | rfl | (simp [errW_none, errW_some] <;> rfl) | (simp [*, errW_none, errW_some] <;> rfl), by repeat (first | (with_reducible first | exact HB.out | apply below_alloc | apply pw_below_drewN | apply below_drew1) | exact HB.out)⟩
                      · rw [if_neg c39] at H
                        exact absurd H (by simp)
                    · rw [if_neg c38] at H
                      have c38b0 : decide (1 < (t496.length : Int)) = false := decide_eq_false c38
                      have c38b1 : decide (1 < t496.length) = false := decide_eq_false (by omega)
                      clear c38
                      (first | rw [c38b0] | (simp only [i64_w, i32_w]; rw [c38b0]) | skip)
                      have H' := Aside0.mk H
                      clear H
                      go_wp2
                      go_meet
                      case rel => exact ⟨_, (a0), (by first | rfl | (simp; done) | (simp [*]; done)), H', ⟨by first | omega | exact Nat.le_refl _⟩, ⟨by (with_reducible repeat (first | apply Kd.R_alloc | apply Kd.R_drewN | apply Kd.R_drew)); exact Kd.R_mono HO498.out (fun _ hk => trivial)⟩, ⟨by repeat (first | (with_reducible first | exact HB.out | apply below_alloc | apply pw_below_drewN | apply below_drew1) | exact HB.out)⟩⟩
                  case rest =>
                    clear HC31
                    try clear c1
                    try clear c2
                    try clear p2
                    try clear c3
                    try clear p4
                    try clear q4
                    try clear hx4
                    try clear qi4
                    try clear c5
                    try clear p5
                    try clear q5
                    try clear hx5
                    try clear qi5
                    try clear c6
                    try clear c6b0
                    try clear c6b1
                    try clear p6
                    try clear c8
                    try clear c8b0
                    try clear c15
                    try clear c15b0
                    try clear c15b1
                    try clear c16
                    try clear c16b0
                    try clear c16b1
                    try clear c17
                    try clear c17b0
                    try clear c17b1
                    try clear c22
                    try clear c22b0
                    try clear c22b1
                    try clear c23
                    try clear c23b0
                    try clear c23b1
                    try clear c27
                    try clear c27b0
                    try clear c27b1
                    try clear c29
                    try clear c29b0
                    try clear c29b1
                    try clear c38
                    try clear c38b0
                    try clear c38b1
                    try clear c39
                    try clear c39b0
                    try clear c39b1
                    try clear hx487_0
                    try clear hx493_0
                    try clear hx495_0
                    try clear hx499_0
                    try clear hx503_0
                    try clear p487
                    try clear p493
                    try clear p495
                    try clear p499
                    try clear p503
                    try clear q487
                    try clear q490
                    try clear q493
                    try clear q495
                    try clear q499
                    try clear q502
                    try clear q503
                    try clear q506
                    obtain ⟨kq, x14_30, rfl, HA, HJ30, HO_13, HB⟩ := hcut
                    cases kq with
                    | zero => exact absurd HA.out (by simp [gronx_inStep.j0])
                    | succ kj30 =>
                      have H := HA.out
                      clear HA
                      simp only [gronx_inStep.j0] at H
                      have HC43 := Aside0.mk H
                      clear H
                      go_upto_region 19 with (fail)
                      go_cut [98] (fun v98 wc => ∃ (kq : Nat) (x98_42 : Bool), v98 = .bool x98_42 ∧ Aside0 (gronx_inStep.j1 kq a0 a3 t488 x14_30 t500 x98_42 = some (r1, r2)) ∧ Aside0 (kq ≤ kj30) ∧ Aside0 (Below w.heap.size w wc))
                      case first =>
                        have H := HC43.out
                        clear HC43
                        by_cases c44 : (t496.length : Int) > 1
                        · rw [if_pos c44] at H
                          have c44b0 : decide (1 < (t496.length : Int)) = true := decide_eq_true c44
                          have c44b1 : decide (1 < t496.length) = true := decide_eq_true (by omega)
                          clear c44
                          (first | rw [c44b0] | (simp only [i64_w, i32_w]; rw [c44b0]) | skip)
                          by_cases c45 : x14_30 < t500
                          · rw [if_pos c45] at H
                            have c45b0 : decide (x14_30 < t500) = true := decide_eq_true c45
                            clear c45
                            have H' := Aside0.mk H
                            clear H
                            go_wp2
                            go_meet
                            case rel => exact ⟨_, (true), (by first | rfl | (simp; done) | (simp [*]; done)), H', ⟨by have := HJ30.out; first | omega | exact Nat.le_refl _⟩, ⟨by repeat (first | (with_reducible first | exact HB.out | apply below_alloc | apply pw_below_drewN | apply below_drew1) | exact HB.out)⟩⟩
                          · rw [if_neg c45] at H
                            have c45b0 : decide (x14_30 < t500) = false := decide_eq_false c45
                            clear c45
                            by_cases c46 : 0 < (l2.length : Int)
                            · rw [if_pos c46] at H
                              have c46b0 : decide (0 < (l2.length : Int)) = true := decide_eq_true c46
                              have c46b1 : decide (0 < l2.length) = true := decide_eq_true (by omega)
                              clear c46
                              by_cases c47 : t500 < (rd l2 0)
                              · rw [if_pos c47] at H
                                have c47b0 : decide (t500 < (rd l2 0)) = true := decide_eq_true c47
                                clear c47
                                have H' := Aside0.mk H
                                clear H
                                have p507 : 0 ≤ (0 : Int) := (by omega)
                                have q507 : 0 < (l2.length : Int) := of_decide_eq_true (by first | (with_reducible assumption) | assumption)
                                obtain ⟨ad507, e507, hx507_0⟩ := Kd.at_int HR2.out 0 p507 q507
                                cases e507
                                have qi507 : (0 < l2.length) = True := eq_true (by omega)
                                (try rw [show ((0 : Int)).toNat = 0 from rfl] at hx507_0)
                                (try rw [Addr.add_zero'] at hx507_0)
                                replace hx507_0 := (HB.out.cell (World.block_lt_of_cell? w _ hx507_0)).trans hx507_0
                                replace p507 := eq_true p507
                                replace q507 := eq_true q507
                                go_wp2
                                go_meet
                                case rel => exact ⟨_, (true), (by first | rfl | (simp; done) | (simp [*]; done)), H', ⟨by have := HJ30.out; first | omega | exact Nat.le_refl _⟩, ⟨by repeat (first | (with_reducible first | exact HB.out | apply below_alloc | apply pw_below_drewN | apply below_drew1) | exact HB.out)⟩⟩
                              · rw [if_neg c47] at H
                                have c47b0 : decide (t500 < (rd l2 0)) = false := decide_eq_false c47
                                clear c47
                                by_cases c48 : 1 < (l2.length : Int)
                                · rw [if_pos c48] at H
                                  have c48b0 : decide (1 < (l2.length : Int)) = true := decide_eq_true c48
                                  have c48b1 : decide (1 < l2.length) = true := decide_eq_true (by omega)
                                  clear c48
                                  have H' := Aside0.mk H
                                  clear H
                                  have p507 : 0 ≤ (0 : Int) := (by omega)
                                  have q507 : 0 < (l2.length : Int) := of_decide_eq_true (by first | (with_reducible assumption) | assumption)
                                  obtain ⟨ad507, e507, hx507_0⟩ := Kd.at_int HR2.out 0 p507 q507
                                  cases e507
                                  have qi507 : (0 < l2.length) = True := eq_true (by omega)
                                  (try rw [show ((0 : Int)).toNat = 0 from rfl] at hx507_0)
                                  (try rw [Addr.add_zero'] at hx507_0)
                                  replace hx507_0 := (HB.out.cell (World.block_lt_of_cell? w _ hx507_0)).trans hx507_0
                                  replace p507 := eq_true p507
                                  replace q507 := eq_true q507
                                  have p508 : 0 ≤ (1 : Int) := (by omega)
                                  have q508 : 1 < (l2.length : Int) := of_decide_eq_true (by first | (with_reducible assumption) | assumption)
                                  obtain ⟨ad508, e508, hx508_0⟩ := Kd.at_int HR2.out 1 p508 q508
                                  obtain rfl : ad507 = ad508 := (by injection e508)
                                  (try simp only [show (1 : Int).toNat = 1 from rfl, Nat.reduceMul, Nat.reduceEqDiff, Go.Addr.add, ↓reduceIte] at hx508_0)
                                  have qi508 : (1 < l2.length) = True := eq_true (by omega)
                                  (try rw [show ((1 : Int)).toNat = 1 from rfl] at hx508_0)
                                  replace hx508_0 := (HB.out.cell (World.block_lt_of_cell? w _ hx508_0)).trans hx508_0
                                  replace p508 := eq_true p508
                                  replace q508 := eq_true q508
                                  go_wp2
                                  go_meet
                                  case rel => exact ⟨_, (decide (x14_30 > (rd l2 1))), (by first | rfl | (simp; done) | (simp [*]; done)), H', ⟨by have := HJ30.out; first | omega | exact Nat.le_refl _⟩, ⟨by repeat (first | (with_reducible first | exact HB.out | apply below_alloc | apply pw_below_drewN | apply below_drew1) | exact HB.out)⟩⟩
                                · rw [if_neg c48] at H
                                  exact absurd H (by simp)
                            · rw [if_neg c46] at H
                              exact absurd H (by simp)
                        · rw [if_neg c44] at H
                          have c44b0 : decide (1 < (t496.length : Int)) = false := decide_eq_false c44
                          have c44b1 : decide (1 < t496.length) = false := decide_eq_false (by omega)
                          clear c44
                          (first | rw [c44b0] | (simp only [i64_w, i32_w]; rw [c44b0]) | skip)
                          by_cases c49 : 0 < (l2.length : Int)
                          · rw [if_pos c49] at H
                            have c49b0 : decide (0 < (l2.length : Int)) = true := decide_eq_true c49
                            have c49b1 : decide (0 < l2.length) = true := decide_eq_true (by omega)
                            clear c49
                            by_cases c50 : t500 < (rd l2 0)
                            · rw [if_pos c50] at H
                              have c50b0 : decide (t500 < (rd l2 0)) = true := decide_eq_true c50
                              clear c50
                              have H' := Aside0.mk H
                              clear H
                              have p509 : 0 ≤ (0 : Int) := (by omega)
                              have q509 : 0 < (l2.length : Int) := of_decide_eq_true (by first | (with_reducible assumption) | assumption)
                              obtain ⟨ad509, e509, hx509_0⟩ := Kd.at_int HR2.out 0 p509 q509
                              cases e509
                              have qi509 : (0 < l2.length) = True := eq_true (by omega)
                              (try rw [show ((0 : Int)).toNat = 0 from rfl] at hx509_0)
                              (try rw [Addr.add_zero'] at hx509_0)
                              replace hx509_0 := (HB.out.cell (World.block_lt_of_cell? w _ hx509_0)).trans hx509_0
                              replace p509 := eq_true p509
                              replace q509 := eq_true q509
                              go_wp2
                              go_meet
                              case rel => exact ⟨_, (true), (by first | rfl | (simp; done) | (simp [*]; done)), H', ⟨by have := HJ30.out; first | omega | exact Nat.le_refl _⟩, ⟨by repeat (first | (with_reducible first | exact HB.out | apply below_alloc | apply pw_below_drewN | apply below_drew1) | exact HB.out)⟩⟩
                            · rw [if_neg c50] at H
                              have c50b0 : decide (t500 < (rd l2 0)) = false := decide_eq_false c50
                              clear c50
                              by_cases c51 : 1 < (l2.length : Int)
                              · rw [if_pos c51] at H
                                have c51b0 : decide (1 < (l2.length : Int)) = true := decide_eq_true c51
                                have c51b1 : decide (1 < l2.length) = true := decide_eq_true (by omega)
                                clear c51
                                have H' := Aside0.mk H
                                clear H
                                have p509 : 0 ≤ (0 : Int) := (by omega)
                                have q509 : 0 < (l2.length : Int) := of_decide_eq_true (by first | (with_reducible assumption) | assumption)
                                obtain ⟨ad509, e509, hx509_0⟩ := Kd.at_int HR2.out 0 p509 q509
                                cases e509
                                have qi509 : (0 < l2.length) = True := eq_true (by omega)
                                (try rw [show ((0 : Int)).toNat = 0 from rfl] at hx509_0)
                                (try rw [Addr.add_zero'] at hx509_0)
                                replace hx509_0 := (HB.out.cell (World.block_lt_of_cell? w _ hx509_0)).trans hx509_0
                                replace p509 := eq_true p509
                                replace q509 := eq_true q509
                                have p510 : 0 ≤ (1 : Int) := (by omega)
                                have q510 : 1 < (l2.length : Int) := of_decide_eq_true (by first | (with_reducible assumption) | assumption)
                                obtain ⟨ad510, e510, hx510_0⟩ := Kd.at_int HR2.out 1 p510 q510
                                obtain rfl : ad509 = ad510 := (by injection e510)
                                (try simp only [show (1 : Int).toNat = 1 from rfl, Nat.reduceMul, Nat.reduceEqDiff, Go.Addr.add, ↓reduceIte] at hx510_0)
                                have qi510 : (1 < l2.length) = True := eq_true (by omega)
                                (try rw [show ((1 : Int)).toNat = 1 from rfl] at hx510_0)
                                replace hx510_0 := (HB.out.cell (World.block_lt_of_cell? w _ hx510_0)).trans hx510_0
                                replace p510 := eq_true p510
                                replace q510 := eq_true q510
                                go_wp2
                                go_meet
                                case rel => exact ⟨_, (decide (x14_30 > (rd l2 1))), (by first | rfl | (simp; done) | (simp [*]; done)), H', ⟨by have := HJ30.out; first | omega | exact Nat.le_refl _⟩, ⟨by repeat (first | (with_reducible first | exact HB.out | apply below_alloc | apply pw_below_drewN | apply below_drew1) | exact HB.out)⟩⟩
                              · rw [if_neg c51] at H
                                exact absurd H (by simp)
                          · rw [if_neg c49] at H
                            exact absurd H (by simp)
                      case rest =>
                        clear HC43
                        try clear c1
                        try clear c2
                        try clear p2
                        try clear c3
                        try clear c4
                        try clear p4
                        try clear q4
                        try clear hx4
                        try clear qi4
                        try clear c5
                        try clear p5
                        try clear q5
                        try clear hx5
                        try clear qi5
                        try clear c6
                        try clear c6b0
                        try clear c6b1
                        try clear p6
                        try clear c8
                        try clear c8b0
                        try clear c15
                        try clear c15b0
                        try clear c15b1
                        try clear c16
                        try clear c16b0
                        try clear c16b1
                        try clear c17
                        try clear c17b0
                        try clear c17b1
                        try clear c22
                        try clear c22b0
                        try clear c22b1
                        try clear c23
                        try clear c23b0
                        try clear c23b1
                        try clear c27
                        try clear c27b0
                        try clear c27b1
                        try clear c29
                        try clear c29b0
                        try clear c29b1
                        try clear c38
                        try clear c38b0
                        try clear c38b1
                        try clear c39
                        try clear c39b0
                        try clear c39b1
                        try clear c44
                        try clear c44b0
                        try clear c44b1
                        try clear c45
                        try clear c45b0
                        try clear c46
                        try clear c46b0
                        try clear c46b1
                        try clear c47
                        try clear c47b0
                        try clear c48
                        try clear c48b0
                        try clear c48b1
                        try clear p48
                        try clear q48
                        try clear hx48
                        try clear qi48
                        try clear c49
                        try clear c49b0
                        try clear c49b1
                        try clear p49
                        try clear q49
                        try clear hx49
                        try clear qi49
                        try clear c50
                        try clear c50b0
                        try clear p50
                        try clear q50
                        try clear hx50
                        try clear qi50
                        try clear c51
                        try clear c51b0
                        try clear c51b1
                        try clear p51
                        try clear q51
                        try clear hx51
                        try clear qi51
                        try clear hx487_0
                        try clear hx493_0
                        try clear hx495_0
                        try clear hx499_0
                        try clear hx503_0
                        try clear hx507_0
                        try clear hx508_0
                        try clear hx509_0
                        try clear hx510_0
                        try clear p2
                        try clear p4
                        try clear p487
                        try clear p493
                        try clear p495
                        try clear p499
                        try clear p5
                        try clear p503
                        try clear p507
                        try clear p508
                        try clear p509
                        try clear p510
                        try clear p6
                        try clear q4
                        try clear q487
                        try clear q490
                        try clear q493
                        try clear q495
                        try clear q499
                        try clear q5
                        try clear q502
                        try clear q503
                        try clear q506
                        try clear q507
                        try clear q508
                        try clear q509
                        try clear q510
                        obtain ⟨kq, x98_42, rfl, HA, HJ42, HB⟩ := hcut
                        cases kq with
                        | zero => exact absurd HA.out (by simp [gronx_inStep.j1])
                        | succ kj42 =>
                          have H := HA.out
                          clear HA
                          simp only [gronx_inStep.j1] at H
                          by_cases c52 : x98_42 = true
                          · subst c52
                            have H1 : ((errors_New.f (⟨#[115, 116, 101, 112, 32, 111, 117, 116, 32, 111, 102, 32, 98, 111, 117, 110, 100, 115, 40, 44, 32, 41]⟩ : ByteArray)).bind fun t511 => (some (false, t511))) = some (r1, r2) := by rw [if_pos rfl] at H; exact H
                            clear H
                            have H := H1
                            clear H1
                            replace H := Option.bind_eq_some_iff.mp H
                            obtain ⟨t511, A530, H⟩ := H
                            replace H : (some (false, t511)) = some (r1, r2) := H
                            have A53 := Aside0.mk A530
                            clear A530
                            simp only [Option.some.injEq, Prod.mk.injEq] at H
                            obtain ⟨rfl, rfl⟩ := H
                            go_wp2_with (first | ((with_reducible refine gate_callee (f := 51) rfl ?_); refine goesL_ (some 99) rfl rfl Tryz.func51 (by kernel_rfl) rfl #[.string (⟨#[115, 116, 101, 112, 32, 111, 117, 116, 32, 111, 102, 32, 98, 111, 117, 110, 100, 115, 40, 44, 32, 41]⟩ : ByteArray)] rfl (by (try simp only [List.map_toArray, List.map_cons, List.map_nil]); first | done | rfl | (simp only [List.length_drop, List.length_take]; rfl)) ?_; (with_reducible refine (errors_New.calls (⟨#[115, 116, 101, 112, 32, 111, 117, 116, 32, 111, 102, 32, 98, 111, 117, 110, 100, 115, 40, 44, 32, 41]⟩ : ByteArray) t511 _ A53.out).mono ?_); rintro e w54 ⟨rfl, hb⟩; refine ⟨_, rfl, ?_⟩; have n0_ := Aside0.mk (below_step (by repeat (first | (with_reducible first | exact HB.out | apply below_alloc | apply pw_below_drewN | apply below_drew1) | exact HB.out)) hb); clear HB; have HB := n0_; clear n0_; (try clear hb); (try clear hb2); (try clear hk); (try clear hi); (try simp only [errW_none, errW_some])))
                            go_ret2
                            exact ⟨by first | rfl | (simp [errW_none, errW_some] <;> rfl) | (simp [*, errW_none, errW_some] <;> rfl), by repeat (first | (with_reducible first | exact HB.out | apply below_alloc | apply pw_below_drewN | apply below_drew1) | exact HB.out)⟩
                          · replace c52 := Bool.eq_false_iff.mpr c52
                            subst c52
                            have H1 : (if a3 = true then (if t500 = 7 then (gronx_inStep.j2 kj42 a0 t488 x14_30 t500 (x14_30 != 7)) else (gronx_inStep.j2 kj42 a0 t488 x14_30 t500 false)) else ((gronx_inStepRange.f kj42 a0 t500 x14_30 t488).bind fun t515 => (some (t515, none)))) = some (r1, r2) := by rw [if_neg (show ¬ (false = true) by decide)] at H; exact H
                            clear H
                            have H := H1
                            clear H1
                            by_cases c55 : a3 = true
                            · subst c55
                              have H1 : (if t500 = 7 then (gronx_inStep.j2 kj42 a0 t488 x14_30 t500 (x14_30 != 7)) else (gronx_inStep.j2 kj42 a0 t488 x14_30 t500 false)) = some (r1, r2) := by rw [if_pos rfl] at H; exact H
                              clear H
                              have H := H1
                              clear H1
                              have HC56 := Aside0.mk H
                              clear H
                              go_upto_region 22 with (fail)
                              go_cut [106] (fun v106 wc => ∃ (kq : Nat) (x106_55 : Bool), v106 = .bool x106_55 ∧ Aside0 (gronx_inStep.j2 kq a0 t488 x14_30 t500 x106_55 = some (r1, r2)) ∧ Aside0 (kq ≤ kj42) ∧ Aside0 (Below w.heap.size w wc))
                              case first =>
                                have H := HC56.out
                                clear HC56
                                by_cases c57 : t500 = 7
                                · rw [if_pos c57] at H
                                  have c57b0 : (t500 == 7) = true := beq_iff_eq.mpr c57
                                  have c57b1 : (t500 != 7) = false := bne_eq_false_iff_eq.mpr c57
                                  clear c57
                                  (first | rw [c57b0] | (simp only [i64_w, i32_w]; rw [c57b0]) | skip)
                                  have H' := Aside0.mk H
                                  clear H
                                  go_wp2
                                  go_meet
                                  case rel => exact ⟨_, ((x14_30 != 7)), (by first | rfl | (simp; done) | (simp [*]; done)), H', ⟨by have := HJ30.out; have := HJ42.out; first | omega | exact Nat.le_refl _⟩, ⟨by repeat (first | (with_reducible first | exact HB.out | apply below_alloc | apply pw_below_drewN | apply below_drew1) | exact HB.out)⟩⟩
                                · rw [if_neg c57] at H
                                  have c57b0 : (t500 == 7) = false := beq_eq_false_iff_ne.mpr c57
                                  have c57b1 : (t500 != 7) = true := bne_iff_ne.mpr c57
                                  (first | rw [c57b0] | (simp only [i64_w, i32_w]; rw [c57b0]) | skip)
                                  have H' := Aside0.mk H
                                  clear H
                                  go_wp2
                                  go_meet
                                  case rel => exact ⟨_, (false), (by first | rfl | (simp; done) | (simp [*]; done)), H', ⟨by have := HJ30.out; have := HJ42.out; first | omega | exact Nat.le_refl _⟩, ⟨by repeat (first | (with_reducible first | exact HB.out | apply below_alloc | apply pw_below_drewN | apply below_drew1) | exact HB.out)⟩⟩
                              case rest =>
                                clear HC56
                                try clear c1
                                try clear c2
                                try clear p2
                                try clear c3
                                try clear c4
                                try clear p4
                                try clear q4
                                try clear hx4
                                try clear qi4
                                try clear c5
                                try clear p5
                                try clear q5
                                try clear hx5
                                try clear qi5
                                try clear c6
                                try clear c6b0
                                try clear c6b1
                                try clear p6
                                try clear c8
                                try clear c8b0
                                try clear c15
                                try clear c15b0
                                try clear c15b1
                                try clear c16
                                try clear c16b0
                                try clear c16b1
                                try clear c17
                                try clear c17b0
                                try clear c17b1
                                try clear c22
                                try clear c22b0
                                try clear c22b1
                                try clear c23
                                try clear c23b0
                                try clear c23b1
                                try clear c27
                                try clear c27b0
                                try clear c27b1
                                try clear c29
                                try clear c29b0
                                try clear c29b1
                                try clear c38
                                try clear c38b0
                                try clear c38b1
                                try clear c39
                                try clear c39b0
                                try clear c39b1
                                try clear c44
                                try clear c44b0
                                try clear c44b1
                                try clear c45
                                try clear c45b0
                                try clear c46
                                try clear c46b0
                                try clear c46b1
                                try clear c47
                                try clear c47b0
                                try clear c48
                                try clear c48b0
                                try clear c48b1
                                try clear p48
                                try clear q48
                                try clear hx48
                                try clear qi48
                                try clear c49
                                try clear c49b0
                                try clear c49b1
                                try clear p49
                                try clear q49
                                try clear hx49
                                try clear qi49
                                try clear c50
                                try clear c50b0
                                try clear p50
                                try clear q50
                                try clear hx50
                                try clear qi50
                                try clear c51
                                try clear c51b0
                                try clear c51b1
                                try clear p51
                                try clear q51
                                try clear hx51
                                try clear qi51
                                try clear c52
                                try clear c54
                                try clear c55
                                try clear c57
                                try clear c57b0
                                try clear c57b1
                                try clear hx487_0
                                try clear hx493_0
                                try clear hx495_0
                                try clear hx499_0
                                try clear hx503_0
                                try clear hx507_0
                                try clear hx508_0
                                try clear hx509_0
                                try clear hx510_0
                                try clear p2
                                try clear p4
                                try clear p48
                                try clear p487
                                try clear p49
                                try clear p493
                                try clear p495
                                try clear p499
                                try clear p5
                                try clear p50
                                try clear p503
                                try clear p507
                                try clear p508
                                try clear p509
                                try clear p51
                                try clear p510
                                try clear p6
                                try clear q4
                                try clear q48
                                try clear q487
                                try clear q49
                                try clear q490
                                try clear q493
                                try clear q495
                                try clear q499
                                try clear q5
                                try clear q50
                                try clear q502
                                try clear q503
                                try clear q506
                                try clear q507
                                try clear q508
                                try clear q509
                                try clear q51
                                try clear q510
                                obtain ⟨kq, x106_55, rfl, HA, HJ55, HB⟩ := hcut
                                cases kq with
                                | zero => exact absurd HA.out (by simp [gronx_inStep.j2])
                                | succ kj55 =>
                                  have H := HA.out
                                  clear HA
                                  simp only [gronx_inStep.j2] at H
                                  have HC58 := Aside0.mk H
                                  clear H
                                  go_upto_if 106 with (fail)
                                  go_cut [15] (fun v15 wc => ∃ (kq : Nat) (x15_57 : Int), v15 = .int .i64 x15_57 ∧ Aside0 (gronx_inStep.j3 kq a0 t488 x14_30 x15_57 = some (r1, r2)) ∧ Aside0 (kq ≤ kj55) ∧ Aside0 (Below w.heap.size w wc))
                                  case first =>
                                    have H := HC58.out
                                    clear HC58
                                    by_cases c59 : x106_55 = true
                                    · subst c59
                                      have H1 : (gronx_inStep.j3 kj55 a0 t488 x14_30 0) = some (r1, r2) := by rw [if_pos rfl] at H; exact H
                                      clear H
                                      have H := H1
                                      clear H1
                                      have H' := Aside0.mk H
                                      clear H
                                      go_wp2
                                      go_meet
                                      case rel => exact ⟨_, (0), (by first | rfl | (simp; done) | (simp [*]; done)), H', ⟨by have := HJ30.out; have := HJ42.out; have := HJ55.out; first | omega | exact Nat.le_refl _⟩, ⟨by repeat (first | (with_reducible first | exact HB.out | apply below_alloc | apply pw_below_drewN | apply below_drew1) | exact HB.out)⟩⟩
                                    · replace c59 := Bool.eq_false_iff.mpr c59
                                      subst c59
                                      have H1 : (gronx_inStep.j3 kj55 a0 t488 x14_30 t500) = some (r1, r2) := by rw [if_neg (show ¬ (false = true) by decide)] at H; exact H
                                      clear H
                                      have H := H1
                                      clear H1
                                      have H' := Aside0.mk H
                                      clear H
                                      go_wp2
                                      go_meet
                                      case rel => exact ⟨_, (t500), (by first | rfl | (simp; done) | (simp [*]; done)), H', ⟨by have := HJ30.out; have := HJ42.out; have := HJ55.out; first | omega | exact Nat.le_refl _⟩, ⟨by repeat (first | (with_reducible first | exact HB.out | apply below_alloc | apply pw_below_drewN | apply below_drew1) | exact HB.out)⟩⟩
                                  case rest =>
                                    clear HC58
                                    try clear c1
                                    try clear c2
                                    try clear p2
                                    try clear c3
                                    try clear c4
                                    try clear p4
                                    try clear q4
                                    try clear hx4
                                    try clear qi4
                                    try clear c5
                                    try clear p5
                                    try clear q5
                                    try clear hx5
                                    try clear qi5
                                    try clear c6
                                    try clear c6b0
                                    try clear c6b1
                                    try clear p6
                                    try clear c8
                                    try clear c8b0
                                    try clear c15
                                    try clear c15b0
                                    try clear c15b1
                                    try clear c16
                                    try clear c16b0
                                    try clear c16b1
                                    try clear c17
                                    try clear c17b0
                                    try clear c17b1
                                    try clear c22
                                    try clear c22b0
                                    try clear c22b1
                                    try clear c23
                                    try clear c23b0
                                    try clear c23b1
                                    try clear c27
                                    try clear c27b0
                                    try clear c27b1
                                    try clear c29
                                    try clear c29b0
                                    try clear c29b1
                                    try clear c38
                                    try clear c38b0
                                    try clear c38b1
                                    try clear c39
                                    try clear c39b0
                                    try clear c39b1
                                    try clear c44
                                    try clear c44b0
                                    try clear c44b1
                                    try clear c45
                                    try clear c45b0
                                    try clear c46
                                    try clear c46b0
                                    try clear c46b1
                                    try clear c47
                                    try clear c47b0
                                    try clear c48
                                    try clear c48b0
                                    try clear c48b1
                                    try clear p48
                                    try clear q48
                                    try clear hx48
                                    try clear qi48
                                    try clear c49
                                    try clear c49b0
                                    try clear c49b1
                                    try clear p49
                                    try clear q49
                                    try clear hx49
                                    try clear qi49
                                    try clear c50
                                    try clear c50b0
                                    try clear p50
                                    try clear q50
                                    try clear hx50
                                    try clear qi50
                                    try clear c51
                                    try clear c51b0
                                    try clear c51b1
                                    try clear p51
                                    try clear q51
                                    try clear hx51
                                    try clear qi51
                                    try clear c52
                                    try clear c54
                                    try clear c55
                                    try clear c57
                                    try clear c57b0
                                    try clear c57b1
                                    try clear c59
                                    try clear hx487_0
                                    try clear hx493_0
                                    try clear hx495_0
                                    try clear hx499_0
                                    try clear hx503_0
                                    try clear hx507_0
                                    try clear hx508_0
                                    try clear hx509_0
                                    try clear hx510_0
                                    try clear p2
                                    try clear p4
                                    try clear p48
                                    try clear p487
                                    try clear p49
                                    try clear p493
                                    try clear p495
                                    try clear p499
                                    try clear p5
                                    try clear p50
                                    try clear p503
                                    try clear p507
                                    try clear p508
                                    try clear p509
                                    try clear p51
                                    try clear p510
                                    try clear p6
                                    try clear q4
                                    try clear q48
                                    try clear q487
                                    try clear q49
                                    try clear q490
                                    try clear q493
                                    try clear q495
                                    try clear q499
                                    try clear q5
                                    try clear q50
                                    try clear q502
                                    try clear q503
                                    try clear q506
                                    try clear q507
                                    try clear q508
                                    try clear q509
                                    try clear q51
                                    try clear q510
                                    obtain ⟨kq, x15_57, rfl, HA, HJ57, HB⟩ := hcut
                                    cases kq with
                                    | zero => exact absurd HA.out (by simp [gronx_inStep.j3])
                                    | succ kj57 =>
                                      have H := HA.out
                                      clear HA
                                      simp only [gronx_inStep.j3] at H
                                      by_cases c60 : a0 = 0
                                      · rw [if_pos c60] at H
                                        have c60b0 : (a0 == 0) = true := beq_iff_eq.mpr c60
                                        have c60b1 : (a0 != 0) = false := bne_eq_false_iff_eq.mpr c60
                                        clear c60
                                        replace H := Option.bind_eq_some_iff.mp H
                                        obtain ⟨t512, A610, H⟩ := H
                                        replace H : (if t512 = true then (some (true, none)) else ((gronx_inStepRange.f kj57 7 x15_57 x14_30 t488).bind fun t513 => (some (t513, none)))) = some (r1, r2) := H
                                        have A61 := Aside0.mk A610
                                        clear A610
                                        by_cases c62 : t512 = true
                                        · subst c62
                                          have H1 : (some (true, none)) = some (r1, r2) := by rw [if_pos rfl] at H; exact H
                                          clear H
                                          have H := H1
                                          clear H1
                                          simp only [Option.some.injEq, Prod.mk.injEq] at H
                                          obtain ⟨rfl, rfl⟩ := H
                                          go_wp2_with (first | ((with_reducible refine gate_callee (f := 112) rfl ?_); refine goesL_ (some 112) rfl rfl Tryz.func112 (by kernel_rfl) rfl #[.int .i64 0, .int .i64 x15_57, .int .i64 x14_30, .int .i64 t488] rfl (by (try simp only [List.map_toArray, List.map_cons, List.map_nil]); first | done | rfl | (simp only [List.length_drop, List.length_take]; rfl)) ?_; (with_reducible refine (gronx_inStepRange.calls kj57 0 x15_57 x14_30 t488 true _ A61.out).mono ?_); rintro e w' ⟨rfl, ⟨nd, rfl⟩⟩; refine ⟨_, rfl, ?_⟩))
                                          go_ret2
                                          exact ⟨by first | rfl | (simp [errW_none, errW_some] <;> rfl) | (simp [*, errW_none, errW_some] <;> rfl), by repeat (first | (with_reducible first | exact HB.out | apply below_alloc | apply pw_below_drewN | apply below_drew1) | exact HB.out)⟩
                                        · replace c62 := Bool.eq_false_iff.mpr c62
                                          subst c62
                                          have H1 : ((gronx_inStepRange.f kj57 7 x15_57 x14_30 t488).bind fun t513 => (some (t513, none))) = some (r1, r2) := by rw [if_neg (show ¬ (false = true) by decide)] at H; exact H
                                          clear H
                                          have H := H1
                                          clear H1
                                          replace H := Option.bind_eq_some_iff.mp H
                                          obtain ⟨t513, A630, H⟩ := H
                                          replace H : (some (t513, none)) = some (r1, r2) := H
                                          have A63 := Aside0.mk A630
                                          clear A630
                                          simp only [Option.some.injEq, Prod.mk.injEq] at H
                                          obtain ⟨rfl, rfl⟩ := H
                                          go_wp2_with (first | ((with_reducible refine gate_callee (f := 112) rfl ?_); refine goesL_ (some 112) rfl rfl Tryz.func112 (by kernel_rfl) rfl #[.int .i64 0, .int .i64 x15_57, .int .i64 x14_30, .int .i64 t488] rfl (by (try simp only [List.map_toArray, List.map_cons, List.map_nil]); first | done | rfl | (simp only [List.length_drop, List.length_take]; rfl)) ?_; (with_reducible refine (gronx_inStepRange.calls kj57 0 x15_57 x14_30 t488 false _ A61.out).mono ?_); rintro e w' ⟨rfl, ⟨nd, rfl⟩⟩; refine ⟨_, rfl, ?_⟩) | (go_at_call 112; (with_reducible refine (gronx_inStepRange.calls kj57 7 x15_57 x14_30 t488 t513 _ A63.out).mono ?_); rintro e w' ⟨rfl, ⟨nd, rfl⟩⟩))
                                          go_ret2
                                          exact ⟨by first | rfl | (simp [errW_none, errW_some] <;> rfl) | (simp [*, errW_none, errW_some] <;> rfl), by repeat (first | (with_reducible first | exact HB.out | apply below_alloc | apply pw_below_drewN | apply below_drew1) | exact HB.out)⟩
                                      · rw [if_neg c60] at H
                                        have c60b0 : (a0 == 0) = false := beq_eq_false_iff_ne.mpr c60
                                        have c60b1 : (a0 != 0) = true := bne_iff_ne.mpr c60
                                        replace H := Option.bind_eq_some_iff.mp H
                                        obtain ⟨t514, A640, H⟩ := H
                                        replace H : (some (t514, none)) = some (r1, r2) := H
                                        have A64 := Aside0.mk A640
                                        clear A640
                                        simp only [Option.some.injEq, Prod.mk.injEq] at H
                                        obtain ⟨rfl, rfl⟩ := H
                                        go_wp2_with (first | ((with_reducible refine gate_callee (f := 112) rfl ?_); refine goesL_ (some 123) rfl rfl Tryz.func112 (by kernel_rfl) rfl #[.int .i64 a0, .int .i64 x15_57, .int .i64 x14_30, .int .i64 t488] rfl (by (try simp only [List.map_toArray, List.map_cons, List.map_nil]); first | done | rfl | (simp only [List.length_drop, List.length_take]; rfl)) ?_; (with_reducible refine (gronx_inStepRange.calls kj57 a0 x15_57 x14_30 t488 t514 _ A64.out).mono ?_); rintro e w' ⟨rfl, ⟨nd, rfl⟩⟩; refine ⟨_, rfl, ?_⟩))
                                        go_ret2
                                        exact ⟨by first | rfl | (simp [errW_none, errW_some] <;> rfl) | (simp [*, errW_none, errW_some] <;> rfl), by repeat (first | (with_reducible first | exact HB.out | apply below_alloc | apply pw_below_drewN | apply below_drew1) | exact HB.out)⟩
                            · replace c55 := Bool.eq_false_iff.mpr c55
                              subst c55
                              have H1 : ((gronx_inStepRange.f kj42 a0 t500 x14_30 t488).bind fun t515 => (some (t515, none))) = some (r1, r2) := by rw [if_neg (show ¬ (false = true) by decide)] at H; exact H
                              clear H
                              have H := H1
                              clear H1
                              replace H := Option.bind_eq_some_iff.mp H
                              obtain ⟨t515, A650, H⟩ := H
                              replace H : (some (t515, none)) = some (r1, r2) := H
                              have A65 := Aside0.mk A650
                              clear A650
                              simp only [Option.some.injEq, Prod.mk.injEq] at H
                              obtain ⟨rfl, rfl⟩ := H
                              go_wp2_with (first | ((with_reducible refine gate_callee (f := 112) rfl ?_); refine goesL_ (some 123) rfl rfl Tryz.func112 (by kernel_rfl) rfl #[.int .i64 a0, .int .i64 t500, .int .i64 x14_30, .int .i64 t488] rfl (by (try simp only [List.map_toArray, List.map_cons, List.map_nil]); first | done | rfl | (simp only [List.length_drop, List.length_take]; rfl)) ?_; (with_reducible refine (gronx_inStepRange.calls kj42 a0 t500 x14_30 t488 t515 _ A65.out).mono ?_); rintro e w' ⟨rfl, ⟨nd, rfl⟩⟩; refine ⟨_, rfl, ?_⟩))
                              go_ret2
                              exact ⟨by first | rfl | (simp [errW_none, errW_some] <;> rfl) | (simp [*, errW_none, errW_some] <;> rfl), by repeat (first | (with_reducible first | exact HB.out | apply below_alloc | apply pw_below_drewN | apply below_drew1) | exact HB.out)⟩
                · have H1 : (some (false, some q502)) = some (r1, r2) := by rw [if_neg (show ¬ (some q502).isNone = true by simp)] at H; exact H
                  clear H
                  have H := H1
                  clear H1
                  try simp only [errW_none, errW_some]
                  simp only [Option.some.injEq, Prod.mk.injEq] at H
                  obtain ⟨rfl, rfl⟩ := H
                  go_enter Tryz.func86, Tryz.ntmps86
                  go_wp2_with (first | ((with_reducible refine gate_callee (f := 54) rfl ?_); refine goesL_ (some 17) rfl rfl Tryz.func54 (by kernel_rfl) rfl #[.string a1, .string (⟨#[47]⟩ : ByteArray)] rfl (by (try simp only [List.map_toArray, List.map_cons, List.map_nil]); first | done | rfl | (simp only [List.length_drop, List.length_take]; rfl)) ?_; (with_reducible refine (gronx_zzSplit.calls k a1 (⟨#[47]⟩ : ByteArray) t484 _ A5.out).mono ?_); rintro e w66 ⟨v485, rfl, ho0, hb⟩; refine ⟨_, rfl, ?_⟩; have n0_ := Aside0.mk (Kd.R_lower ho0 (below_size (by repeat (first | (with_reducible first | exact HB.out | apply below_alloc | apply pw_below_drewN | apply below_drew1) | exact HB.out)))); have n1_ := Aside0.mk (below_step (by repeat (first | (with_reducible first | exact HB.out | apply below_alloc | apply pw_below_drewN | apply below_drew1) | exact HB.out)) hb); clear HB; have HO486 := n0_; have HB := n1_; clear n0_ n1_; (try clear hb); (try clear hb2); (try clear hk); (try clear hi); (try clear ho0); obtain ⟨Ao67, co67, eo67⟩ := Kd.R_slice HO486.out; subst eo67; have p487 : 0 ≤ (1 : Int) := (by omega); have q487 : 1 < (t484.length : Int) := of_decide_eq_true (by first | (with_reducible assumption) | assumption); obtain ⟨ad487, e487, hx487_0⟩ := Kd.at_string (Kd.R_reads' HO486.out).2.2 1 p487 q487; cases e487; (try simp only [show (1 : Int).toNat = 1 from rfl, Nat.reduceMul, Nat.reduceEqDiff, Go.Addr.add, ↓reduceIte] at hx487_0); have qi487 : (1 < t484.length) = True := eq_true (by omega); (try rw [show ((1 : Int)).toNat = 1 from rfl] at hx487_0); replace p487 := eq_true p487; replace q487 := eq_true q487) | ((with_reducible refine gate_callee (f := 88) rfl ?_); refine goesL_ (some 22) rfl rfl Tryz.func88 (by kernel_rfl) rfl #[.string (rdOf ByteArray.empty t484 1)] rfl (by (try simp only [List.map_toArray, List.map_cons, List.map_nil]); first | done | rfl | (simp only [List.length_drop, List.length_take]; rfl)) ?_; (with_reducible refine (strconv_Atoi.calls (rdOf ByteArray.empty t484 1) t488 none _ A7.out).mono ?_); rintro e w68 ⟨rfl, hb⟩; refine ⟨_, rfl, ?_⟩; have n0_ := Aside0.mk (Kd.R_below (by (with_reducible repeat (first | apply Kd.R_alloc | apply Kd.R_drewN | apply Kd.R_drew)); exact HO486.out) hb); have n1_ := Aside0.mk (below_step (by repeat (first | (with_reducible first | exact HB.out | apply below_alloc | apply pw_below_drewN | apply below_drew1) | exact HB.out)) hb); clear HO486; clear HB; have HO486 := n0_; have HB := n1_; clear n0_ n1_; (try clear hb); (try clear hb2); (try clear hk); (try clear hi); (try simp only [errW_none, errW_some])) | ((with_reducible refine gate_callee (f := 80) rfl ?_); refine goesL_ (some 32) rfl rfl Tryz.func80 (by kernel_rfl) rfl #[.string a1, .string (⟨#[42, 47]⟩ : ByteArray)] rfl (by (try simp only [List.map_toArray, List.map_cons, List.map_nil]); first | done | rfl | (simp only [List.length_drop, List.length_take]; rfl)) ?_; (with_reducible refine (gronx_zzIndex.calls k a1 (⟨#[42, 47]⟩ : ByteArray) t492 _ A14.out).mono ?_); rintro e w' ⟨rfl, ⟨nd, rfl⟩⟩; refine ⟨_, rfl, ?_⟩) | ((with_reducible refine gate_callee (f := 80) rfl ?_); refine goesL_ (some 43) rfl rfl Tryz.func80 (by kernel_rfl) rfl #[.string a1, .string (⟨#[48, 47]⟩ : ByteArray)] rfl (by (try simp only [List.map_toArray, List.map_cons, List.map_nil]); first | done | rfl | (simp only [List.length_drop, List.length_take]; rfl)) ?_; (with_reducible refine (gronx_zzIndex.calls k a1 (⟨#[48, 47]⟩ : ByteArray) t494 _ A21.out).mono ?_); rintro e w' ⟨rfl, ⟨nd, rfl⟩⟩; refine ⟨_, rfl, ?_⟩; have p495 : 0 ≤ (0 : Int) := (by omega); have q495 : 0 < (t484.length : Int) := of_decide_eq_true (by first | (with_reducible assumption) | assumption); obtain ⟨ad495, e495, hx495_0⟩ := Kd.at_string (Kd.R_reads' HO486.out).2.2 0 p495 q495; obtain rfl : ad487 = ad495 := (by injection e495); have qi495 : (0 < t484.length) = True := eq_true (by omega); (try rw [show ((0 : Int)).toNat = 0 from rfl] at hx495_0); (try rw [Addr.add_zero'] at hx495_0); replace p495 := eq_true p495; replace q495 := eq_true q495) | ((with_reducible refine gate_callee (f := 54) rfl ?_); refine goesL_ (some 52) rfl rfl Tryz.func54 (by kernel_rfl) rfl #[.string (rdOf ByteArray.empty t484 0), .string (⟨#[45]⟩ : ByteArray)] rfl (by (try simp only [List.map_toArray, List.map_cons, List.map_nil]); first | done | rfl | (simp only [List.length_drop, List.length_take]; rfl)) ?_; (with_reducible refine (gronx_zzSplit.calls k (rdOf ByteArray.empty t484 0) (⟨#[45]⟩ : ByteArray) t496 _ A28.out).mono ?_); rintro e w69 ⟨v497, rfl, ho0, hb⟩; refine ⟨_, rfl, ?_⟩; have n0_ := Aside0.mk (Kd.R_elder' (by (with_reducible repeat (first | apply Kd.R_alloc | apply Kd.R_drewN | apply Kd.R_drew)); exact HO486.out) (Kd.R_base ho0) hb); have n1_ := Aside0.mk (Kd.R_lower (Kd.R_new' ho0 (Kd.R_lt (by (with_reducible repeat (first | apply Kd.R_alloc | apply Kd.R_drewN | apply Kd.R_drew)); exact HO486.out))) (below_size (by repeat (first | (with_reducible first | exact HB.out | apply below_alloc | apply pw_below_drewN | apply below_drew1) | exact HB.out)))); have n2_ := Aside0.mk (below_step (by repeat (first | (with_reducible first | exact HB.out | apply below_alloc | apply pw_below_drewN | apply below_drew1) | exact HB.out)) hb); clear HO486; clear HB; have HO486 := n0_; have HO498 := n1_; have HB := n2_; clear n0_ n1_ n2_; (try clear hb); (try clear hb2); (try clear hk); (try clear hi); (try clear ho0); obtain ⟨Ao70, co70, eo70⟩ := Kd.R_slice HO498.out; subst eo70; have p499 : 0 ≤ (0 : Int) := (by omega); have q499 : 0 < (t496.length : Int) := of_decide_eq_true (by first | (with_reducible assumption) | assumption); obtain ⟨ad499, e499, hx499_0⟩ := Kd.at_string (Kd.R_reads' HO498.out).2.2 0 p499 q499; cases e499; have qi499 : (0 < t496.length) = True := eq_true (by omega); (try rw [show ((0 : Int)).toNat = 0 from rfl] at hx499_0); (try rw [Addr.add_zero'] at hx499_0); replace p499 := eq_true p499; replace q499 := eq_true q499) | ((with_reducible refine gate_callee (f := 88) rfl ?_); refine goesL_ (some 58) rfl rfl Tryz.func88 (by kernel_rfl) rfl #[.string (rdOf ByteArray.empty t496 0)] rfl (by (try simp only [List.map_toArray, List.map_cons, List.map_nil]); first | done | rfl | (simp only [List.length_drop, List.length_take]; rfl)) ?_; (with_reducible refine (strconv_Atoi.calls (rdOf ByteArray.empty t496 0) t500 (some q502) _ A30.out).mono ?_); rintro e w71 ⟨rfl, hb⟩; refine ⟨_, rfl, ?_⟩; have n0_ := Aside0.mk (Kd.R_below (by (with_reducible repeat (first | apply Kd.R_alloc | apply Kd.R_drewN | apply Kd.R_drew)); exact HO486.out) hb); have n1_ := Aside0.mk (Kd.R_below (by (with_reducible repeat (first | apply Kd.R_alloc | apply Kd.R_drewN | apply Kd.R_drew)); exact HO498.out) hb); have n2_ := Aside0.mk (below_step (by repeat (first | (with_reducible first | exact HB.out | apply below_alloc | apply pw_below_drewN | apply below_drew1) | exact HB.out)) hb); clear HO486; clear HO498; clear HB; have HO486 := n0_; have HO498 := n1_; have HB := n2_; clear n0_ n1_ n2_; (try clear hb); (try clear hb2); (try clear hk); (try clear hi); (try simp only [errW_none, errW_some])))
                  go_ret2
                  exact ⟨by first | rfl | (simp [errW_none, errW_some] <;> rfl) | (simp [*, errW_none, errW_some] <;> rfl), by repeat (first | (with_reducible first | exact HB.out | apply below_alloc | apply pw_below_drewN | apply below_drew1) | exact HB.out)⟩
              · rw [if_neg c29] at H
                exact absurd H (by simp)
            · rw [if_neg c27] at H
              exact absurd H (by simp)
    · have H1 : (some (false, some q490)) = some (r1, r2) := by rw [if_neg (show ¬ (some q490).isNone = true by simp)] at H; exact H
      clear H
      have H := H1
      clear H1
      try simp only [errW_none, errW_some]
      simp only [Option.some.injEq, Prod.mk.injEq] at H
      obtain ⟨rfl, rfl⟩ := H
      go_enter Tryz.func86, Tryz.ntmps86
      go_wp2_with (first | ((with_reducible refine gate_callee (f := 54) rfl ?_); refine goesL_ (some 17) rfl rfl Tryz.func54 (by kernel_rfl) rfl #[.string a1, .string (⟨#[47]⟩ : ByteArray)] rfl (by (try simp only [List.map_toArray, List.map_cons, List.map_nil]); first | done | rfl | (simp only [List.length_drop, List.length_take]; rfl)) ?_; (with_reducible refine (gronx_zzSplit.calls k a1 (⟨#[47]⟩ : ByteArray) t484 _ A5.out).mono ?_); rintro e w72 ⟨v485, rfl, ho0, hb⟩; refine ⟨_, rfl, ?_⟩; have n0_ := Aside0.mk (Kd.R_lower ho0 (below_size (by repeat (first | (with_reducible first | exact HB.out | apply below_alloc | apply pw_below_drewN | apply below_drew1) | exact HB.out)))); have n1_ := Aside0.mk (below_step (by repeat (first | (with_reducible first | exact HB.out | apply below_alloc | apply pw_below_drewN | apply below_drew1) | exact HB.out)) hb); clear HB; have HO486 := n0_; have HB := n1_; clear n0_ n1_; (try clear hb); (try clear hb2); (try clear hk); (try clear hi); (try clear ho0); obtain ⟨Ao73, co73, eo73⟩ := Kd.R_slice HO486.out; subst eo73; have p487 : 0 ≤ (1 : Int) := (by omega); have q487 : 1 < (t484.length : Int) := of_decide_eq_true (by first | (with_reducible assumption) | assumption); obtain ⟨ad487, e487, hx487_0⟩ := Kd.at_string (Kd.R_reads' HO486.out).2.2 1 p487 q487; cases e487; (try simp only [show (1 : Int).toNat = 1 from rfl, Nat.reduceMul, Nat.reduceEqDiff, Go.Addr.add, ↓reduceIte] at hx487_0); have qi487 : (1 < t484.length) = True := eq_true (by omega); (try rw [show ((1 : Int)).toNat = 1 from rfl] at hx487_0); replace p487 := eq_true p487; replace q487 := eq_true q487) | ((with_reducible refine gate_callee (f := 88) rfl ?_); refine goesL_ (some 22) rfl rfl Tryz.func88 (by kernel_rfl) rfl #[.string (rdOf ByteArray.empty t484 1)] rfl (by (try simp only [List.map_toArray, List.map_cons, List.map_nil]); first | done | rfl | (simp only [List.length_drop, List.length_take]; rfl)) ?_; (with_reducible refine (strconv_Atoi.calls (rdOf ByteArray.empty t484 1) t488 (some q490) _ A7.out).mono ?_); rintro e w74 ⟨rfl, hb⟩; refine ⟨_, rfl, ?_⟩; have n0_ := Aside0.mk (Kd.R_below (by (with_reducible repeat (first | apply Kd.R_alloc | apply Kd.R_drewN | apply Kd.R_drew)); exact HO486.out) hb); have n1_ := Aside0.mk (below_step (by repeat (first | (with_reducible first | exact HB.out | apply below_alloc | apply pw_below_drewN | apply below_drew1) | exact HB.out)) hb); clear HO486; clear HB; have HO486 := n0_; have HB := n1_; clear n0_ n1_; (try clear hb); (try clear hb2); (try clear hk); (try clear hi); (try simp only [errW_none, errW_some])))
      go_ret2
      exact ⟨by first | rfl | (simp [errW_none, errW_some] <;> rfl) | (simp [*, errW_none, errW_some] <;> rfl), by repeat (first | (with_reducible first | exact HB.out | apply below_alloc | apply pw_below_drewN | apply below_drew1) | exact HB.out)⟩
  · rw [if_neg c6] at H
    exact absurd H (by simp)
end Go.Proofs.YtkhgeonlohafgaaGreatDoor.Core
namespace Go.Proofs.YtkhgeonlohafgaaGreatDoor.Core
open Go.RowKit Go.Proofs.YtkhgeonlohafgaaGreatDoorW.PrintWords Go.Proofs.YtkhgeonlohafgaaGreatDoorW.PrintLast Go.Proofs.YtkhgeonlohafgaaGreatDoorW.PrintMore
attribute [local go_sem] max2_int min2_int max_two min_two max_three min_three max_four min_four   -- for this text's walks alone
set_option linter.unusedVariables false
set_option linter.unusedSimpArgs false
mutual
def gronx_inRange.j0 : Nat → Int → Bool → Int → Int → Bool → Option (Bool × Option Int)
  | 0, _, _, _, _, _ => none
  | k + 1, x0, x3, x11, x13, x61 => if x61 = true then ((errors_New.f (⟨#[114, 97, 110, 103, 101, 32, 111, 117, 116, 32, 111, 102, 32, 98, 111, 117, 110, 100, 115, 40, 44, 32, 41]⟩ : ByteArray)).bind fun t531 => (some (false, t531))) else (if x3 = true then (if x11 = 7 then (gronx_inRange.j1 k x0 x11 x13 (x13 != 7)) else (gronx_inRange.j1 k x0 x11 x13 false)) else (if x13 < x11 then ((errors_New.f (⟨#[114, 97, 110, 103, 101, 32, 111, 117, 116, 32, 111, 102, 32, 98, 111, 117, 110, 100, 115, 40, 44, 32, 41]⟩ : ByteArray)).bind fun t534 => (some (false, t534))) else (if x11 ≤ x0 then (some (decide (x0 ≤ x13), none)) else (some (false, none)))))
def gronx_inRange.j1 : Nat → Int → Int → Int → Bool → Option (Bool × Option Int)
  | 0, _, _, _, _ => none
  | k + 1, x0, x11, x13, x69 => if x69 = true then (gronx_inRange.j2 k x0 0 x13) else (gronx_inRange.j2 k x0 x11 x13)
def gronx_inRange.j2 : Nat → Int → Int → Int → Option (Bool × Option Int)
  | 0, _, _, _ => none
  | k + 1, x0, x11, x13 => if x13 = 7 then (gronx_inRange.j3 k x0 x11 x13 (x0 == 0)) else (gronx_inRange.j3 k x0 x11 x13 false)
def gronx_inRange.j3 : Nat → Int → Int → Int → Bool → Option (Bool × Option Int)
  | 0, _, _, _, _ => none
  | k + 1, x0, x11, x13, x75 => if x75 = true then (if x13 < x11 then ((errors_New.f (⟨#[114, 97, 110, 103, 101, 32, 111, 117, 116, 32, 111, 102, 32, 98, 111, 117, 110, 100, 115, 40, 44, 32, 41]⟩ : ByteArray)).bind fun t532 => (some (false, t532))) else (if x11 ≤ 7 then (some (decide (7 ≤ x13), none)) else (some (false, none)))) else (if x13 < x11 then ((errors_New.f (⟨#[114, 97, 110, 103, 101, 32, 111, 117, 116, 32, 111, 102, 32, 98, 111, 117, 110, 100, 115, 40, 44, 32, 41]⟩ : ByteArray)).bind fun t533 => (some (false, t533))) else (if x11 ≤ x0 then (some (decide (x0 ≤ x13), none)) else (some (false, none))))
end
def gronx_inRange.f (k : Nat) (a0 : Int) (a1 : ByteArray) (l2 : List Int) (a3 : Bool) : Option (Bool × Option Int) := (gronx_zzSplit.f k a1 (⟨#[45]⟩ : ByteArray)).bind fun t516 => (if 0 < (t516.length : Int) then ((strconv_Atoi.f (rdOf ByteArray.empty t516 0)).bind fun bt520 => (if bt520.2.isNone = true then (if 1 < (t516.length : Int) then ((strconv_Atoi.f (rdOf ByteArray.empty t516 1)).bind fun bt524 => (if bt524.2.isNone = true then (if 0 < (l2.length : Int) then (if bt520.1 < (rd l2 0) then (gronx_inRange.j0 k a0 a3 bt520.1 bt524.1 true) else (if 1 < (l2.length : Int) then (if bt520.1 > (rd l2 1) then (gronx_inRange.j0 k a0 a3 bt520.1 bt524.1 true) else (if bt524.1 < (rd l2 0) then (gronx_inRange.j0 k a0 a3 bt520.1 bt524.1 true) else (gronx_inRange.j0 k a0 a3 bt520.1 bt524.1 (decide (bt524.1 > (rd l2 1)))))) else (none))) else (none)) else (some (false, some (bt524.2.getD 0))))) else (none)) else (some (false, some (bt520.2.getD 0))))) else (none))
set_option maxHeartbeats 8000000 in
set_option maxRecDepth 100000 in
theorem gronx_inRange.calls (k : Nat) (a0 : Int) (a1 : ByteArray) (A2 : Option Addr) (c2 : Nat) (l2 : List Int) (a3 : Bool) (r1 : Bool) (r2 : Option Int) (w : World) (hr2 : Kd.C (Kd.int .i64) w A2 l2.length l2) (hc2 : l2.length ≤ c2) (h : gronx_inRange.f k a0 a1 l2 a3 = some (r1, r2)) :
    Calls Tryz.prog 87 #[.int .i64 a0, .string a1, .slice A2 l2.length c2, .bool a3] w fun e w' => e = .returned (.tuple #[.bool r1, errW r2]) ∧ Below w.heap.size w w' := by
  have hu71 := Tryz.underlying71
  have HR2 := Aside0.mk hr2
  have HC2 := Aside0.mk hc2
  clear hr2 hc2
  have HB := Aside0.mk (Below.refl w.heap.size w)
  have H : ((gronx_zzSplit.f k a1 (⟨#[45]⟩ : ByteArray)).bind fun t516 => (if 0 < (t516.length : Int) then ((strconv_Atoi.f (rdOf ByteArray.empty t516 0)).bind fun bt520 => (if bt520.2.isNone = true then (if 1 < (t516.length : Int) then ((strconv_Atoi.f (rdOf ByteArray.empty t516 1)).bind fun bt524 => (if bt524.2.isNone = true then (if 0 < (l2.length : Int) then (if bt520.1 < (rd l2 0) then (gronx_inRange.j0 k a0 a3 bt520.1 bt524.1 true) else (if 1 < (l2.length : Int) then (if bt520.1 > (rd l2 1) then (gronx_inRange.j0 k a0 a3 bt520.1 bt524.1 true) else (if bt524.1 < (rd l2 0) then (gronx_inRange.j0 k a0 a3 bt520.1 bt524.1 true) else (gronx_inRange.j0 k a0 a3 bt520.1 bt524.1 (decide (bt524.1 > (rd l2 1)))))) else (none))) else (none)) else (some (false, some (bt524.2.getD 0))))) else (none)) else (some (false, some (bt520.2.getD 0))))) else (none))) = some (r1, r2) := h
  clear h
  replace H := Option.bind_eq_some_iff.mp H
  obtain ⟨t516, A50, H⟩ := H
  replace H : (if 0 < (t516.length : Int) then ((strconv_Atoi.f (rdOf ByteArray.empty t516 0)).bind fun bt520 => (if bt520.2.isNone = true then (if 1 < (t516.length : Int) then ((strconv_Atoi.f (rdOf ByteArray.empty t516 1)).bind fun bt524 => (if bt524.2.isNone = true then (if 0 < (l2.length : Int) then (if bt520.1 < (rd l2 0) then (gronx_inRange.j0 k a0 a3 bt520.1 bt524.1 true) else (if 1 < (l2.length : Int) then (if bt520.1 > (rd l2 1) then (gronx_inRange.j0 k a0 a3 bt520.1 bt524.1 true) else (if bt524.1 < (rd l2 0) then (gronx_inRange.j0 k a0 a3 bt520.1 bt524.1 true) else (gronx_inRange.j0 k a0 a3 bt520.1 bt524.1 (decide (bt524.1 > (rd l2 1)))))) else (none))) else (none)) else (some (false, some (bt524.2.getD 0))))) else (none)) else (some (false, some (bt520.2.getD 0))))) else (none)) = some (r1, r2) := H
  have A5 := Aside0.mk A50
  clear A50
  by_cases c6 : 0 < (t516.length : Int)
  · rw [if_pos c6] at H
    have c6b0 : decide (0 < (t516.length : Int)) = true := decide_eq_true c6
    have c6b1 : decide (0 < t516.length) = true := decide_eq_true (by omega)
    clear c6
    replace H := Option.bind_eq_some_iff.mp H
    obtain ⟨⟨t520, t521⟩, A70, H⟩ := H
    replace H : (if t521.isNone = true then (if 1 < (t516.length : Int) then ((strconv_Atoi.f (rdOf ByteArray.empty t516 1)).bind fun bt524 => (if bt524.2.isNone = true then (if 0 < (l2.length : Int) then (if t520 < (rd l2 0) then (gronx_inRange.j0 k a0 a3 t520 bt524.1 true) else (if 1 < (l2.length : Int) then (if t520 > (rd l2 1) then (gronx_inRange.j0 k a0 a3 t520 bt524.1 true) else (if bt524.1 < (rd l2 0) then (gronx_inRange.j0 k a0 a3 t520 bt524.1 true) else (gronx_inRange.j0 k a0 a3 t520 bt524.1 (decide (bt524.1 > (rd l2 1)))))) else (none))) else (none)) else (some (false, some (bt524.2.getD 0))))) else (none)) else (some (false, some (t521.getD 0)))) = some (r1, r2) := H
    have A7 := Aside0.mk A70
    clear A70
    rcases t521 with _ | q522
    · have H1 : (if 1 < (t516.length : Int) then ((strconv_Atoi.f (rdOf ByteArray.empty t516 1)).bind fun bt524 => (if bt524.2.isNone = true then (if 0 < (l2.length : Int) then (if t520 < (rd l2 0) then (gronx_inRange.j0 k a0 a3 t520 bt524.1 true) else (if 1 < (l2.length : Int) then (if t520 > (rd l2 1) then (gronx_inRange.j0 k a0 a3 t520 bt524.1 true) else (if bt524.1 < (rd l2 0) then (gronx_inRange.j0 k a0 a3 t520 bt524.1 true) else (gronx_inRange.j0 k a0 a3 t520 bt524.1 (decide (bt524.1 > (rd l2 1)))))) else (none))) else (none)) else (some (false, some (bt524.2.getD 0))))) else (none)) = some (r1, r2) := by rw [if_pos (show (none : Option Int).isNone = true by rfl)] at H; exact H
      clear H
      have H := H1
      clear H1
      try simp only [errW_none, errW_some]
      by_cases c8 : 1 < (t516.length : Int)
      · rw [if_pos c8] at H
        have c8b0 : decide (1 < (t516.length : Int)) = true := decide_eq_true c8
        have c8b1 : decide (1 < t516.length) = true := decide_eq_true (by omega)
        clear c8
        replace H := Option.bind_eq_some_iff.mp H
        obtain ⟨⟨t524, t525⟩, A90, H⟩ := H
        replace H : (if t525.isNone = true then (if 0 < (l2.length : Int) then (if t520 < (rd l2 0) then (gronx_inRange.j0 k a0 a3 t520 t524 true) else (if 1 < (l2.length : Int) then (if t520 > (rd l2 1) then (gronx_inRange.j0 k a0 a3 t520 t524 true) else (if t524 < (rd l2 0) then (gronx_inRange.j0 k a0 a3 t520 t524 true) else (gronx_inRange.j0 k a0 a3 t520 t524 (decide (t524 > (rd l2 1)))))) else (none))) else (none)) else (some (false, some (t525.getD 0)))) = some (r1, r2) := H
        have A9 := Aside0.mk A90
        clear A90
        rcases t525 with _ | q526
        · have H1 : (if 0 < (l2.length : Int) then (if t520 < (rd l2 0) then (gronx_inRange.j0 k a0 a3 t520 t524 true) else (if 1 < (l2.length : Int) then (if t520 > (rd l2 1) then (gronx_inRange.j0 k a0 a3 t520 t524 true) else (if t524 < (rd l2 0) then (gronx_inRange.j0 k a0 a3 t520 t524 true) else (gronx_inRange.j0 k a0 a3 t520 t524 (decide (t524 > (rd l2 1)))))) else (none))) else (none)) = some (r1, r2) := by rw [if_pos (show (none : Option Int).isNone = true by rfl)] at H; exact H
          clear H
          have H := H1
          clear H1
          try simp only [errW_none, errW_some]
          have HC10 := Aside0.mk H
          clear H
          go_enter Tryz.func87, Tryz.ntmps87
          go_upto_region 8 with (first | ((with_reducible refine gate_callee (f := 54) rfl ?_); refine goesL_ (some 15) rfl rfl Tryz.func54 (by kernel_rfl) rfl #[.string a1, .string (⟨#[45]⟩ : ByteArray)] rfl (by (try simp only [List.map_toArray, List.map_cons, List.map_nil]); first | done | rfl | (simp only [List.length_drop, List.length_take]; rfl)) ?_; (with_reducible refine (gronx_zzSplit.calls k a1 (⟨#[45]⟩ : ByteArray) t516 _ A5.out).mono ?_); rintro e w11 ⟨v517, rfl, ho0, hb⟩; refine ⟨_, rfl, ?_⟩; have n0_ := Aside0.mk (Kd.R_lower ho0 (below_size (by repeat (first | (with_reducible first | exact HB.out | apply below_alloc | apply pw_below_drewN | apply below_drew1) | exact HB.out)))); have n1_ := Aside0.mk (below_step (by repeat (first | (with_reducible first | exact HB.out | apply below_alloc | apply pw_below_drewN | apply below_drew1) | exact HB.out)) hb); clear HB; have HO518 := n0_; have HB := n1_; clear n0_ n1_; (try clear hb); (try clear hb2); (try clear hk); (try clear hi); (try clear ho0); obtain ⟨Ao12, co12, eo12⟩ := Kd.R_slice HO518.out; subst eo12; have p519 : 0 ≤ (0 : Int) := (by omega); have q519 : 0 < (t516.length : Int) := of_decide_eq_true (by first | (with_reducible assumption) | assumption); obtain ⟨ad519, e519, hx519_0⟩ := Kd.at_string (Kd.R_reads' HO518.out).2.2 0 p519 q519; cases e519; have qi519 : (0 < t516.length) = True := eq_true (by omega); (try rw [show ((0 : Int)).toNat = 0 from rfl] at hx519_0); (try rw [Addr.add_zero'] at hx519_0); replace p519 := eq_true p519; replace q519 := eq_true q519) | ((with_reducible refine gate_callee (f := 88) rfl ?_); refine goesL_ (some 20) rfl rfl Tryz.func88 (by kernel_rfl) rfl #[.string (rdOf ByteArray.empty t516 0)] rfl (by (try simp only [List.map_toArray, List.map_cons, List.map_nil]); first | done | rfl | (simp only [List.length_drop, List.length_take]; rfl)) ?_; (with_reducible refine (strconv_Atoi.calls (rdOf ByteArray.empty t516 0) t520 none _ A7.out).mono ?_); rintro e w13 ⟨rfl, hb⟩; refine ⟨_, rfl, ?_⟩; have n0_ := Aside0.mk (Kd.R_below (by (with_reducible repeat (first | apply Kd.R_alloc | apply Kd.R_drewN | apply Kd.R_drew)); exact HO518.out) hb); have n1_ := Aside0.mk (below_step (by repeat (first | (with_reducible first | exact HB.out | apply below_alloc | apply pw_below_drewN | apply below_drew1) | exact HB.out)) hb); clear HO518; clear HB; have HO518 := n0_; have HB := n1_; clear n0_ n1_; (try clear hb); (try clear hb2); (try clear hk); (try clear hi); (try simp only [errW_none, errW_some]); have p523 : 0 ≤ (1 : Int) := (by omega); have q523 : 1 < (t516.length : Int) := of_decide_eq_true (by first | (with_reducible assumption) | assumption); obtain ⟨ad523, e523, hx523_0⟩ := Kd.at_string (Kd.R_reads' HO518.out).2.2 1 p523 q523; obtain rfl : ad519 = ad523 := (by injection e523); (try simp only [show (1 : Int).toNat = 1 from rfl, Nat.reduceMul, Nat.reduceEqDiff, Go.Addr.add, ↓reduceIte] at hx523_0); have qi523 : (1 < t516.length) = True := eq_true (by omega); (try rw [show ((1 : Int)).toNat = 1 from rfl] at hx523_0); replace p523 := eq_true p523; replace q523 := eq_true q523) | ((with_reducible refine gate_callee (f := 88) rfl ?_); refine goesL_ (some 30) rfl rfl Tryz.func88 (by kernel_rfl) rfl #[.string (rdOf ByteArray.empty t516 1)] rfl (by (try simp only [List.map_toArray, List.map_cons, List.map_nil]); first | done | rfl | (simp only [List.length_drop, List.length_take]; rfl)) ?_; (with_reducible refine (strconv_Atoi.calls (rdOf ByteArray.empty t516 1) t524 none _ A9.out).mono ?_); rintro e w14 ⟨rfl, hb⟩; refine ⟨_, rfl, ?_⟩; have n0_ := Aside0.mk (Kd.R_below (by (with_reducible repeat (first | apply Kd.R_alloc | apply Kd.R_drewN | apply Kd.R_drew)); exact HO518.out) hb); have n1_ := Aside0.mk (below_step (by repeat (first | (with_reducible first | exact HB.out | apply below_alloc | apply pw_below_drewN | apply below_drew1) | exact HB.out)) hb); clear HO518; clear HB; have HO518 := n0_; have HB := n1_; clear n0_ n1_; (try clear hb); (try clear hb2); (try clear hk); (try clear hi); (try simp only [errW_none, errW_some])))
          (try simp only [Act.put, List.setIfInBounds_toArray, List.set_cons_zero, List.set_cons_succ])
          go_cut [61] (fun v61 wc => ∃ (kq : Nat) (x61_9 : Bool), v61 = .bool x61_9 ∧ Aside0 (gronx_inRange.j0 kq a0 a3 t520 t524 x61_9 = some (r1, r2)) ∧ Aside0 (kq ≤ k) ∧ Aside0 (Below w.heap.size w wc))
          case first =>
            have H := HC10.out
            clear HC10
            by_cases c15 : 0 < (l2.length : Int)
            · rw [if_pos c15] at H
              have c15b0 : decide (0 < (l2.length : Int)) = true := decide_eq_true c15
              have c15b1 : decide (0 < l2.length) = true := decide_eq_true (by omega)
              clear c15
              (first | rw [c15b0] | (simp only [i64_w, i32_w]; rw [c15b0]) | skip)
              by_cases c16 : t520 < (rd l2 0)
              · rw [if_pos c16] at H
                have c16b0 : decide (t520 < (rd l2 0)) = true := decide_eq_true c16
                clear c16
                have H' := Aside0.mk H
                clear H
                have p527 : 0 ≤ (0 : Int) := (by omega)
                have q527 : 0 < (l2.length : Int) := of_decide_eq_true (by first | (with_reducible assumption) | assumption)
                obtain ⟨ad527, e527, hx527_0⟩ := Kd.at_int HR2.out 0 p527 q527
                cases e527
                have qi527 : (0 < l2.length) = True := eq_true (by omega)
                (try rw [show ((0 : Int)).toNat = 0 from rfl] at hx527_0)
                (try rw [Addr.add_zero'] at hx527_0)
                replace hx527_0 := (HB.out.cell (World.block_lt_of_cell? w _ hx527_0)).trans hx527_0
                replace p527 := eq_true p527
                replace q527 := eq_true q527
                go_wp2
                go_meet
                case rel => exact ⟨_, (true), (by first | rfl | (simp; done) | (simp [*]; done)), H', ⟨by first | omega | exact Nat.le_refl _⟩, ⟨by repeat (first | (with_reducible first | exact HB.out | apply below_alloc | apply pw_below_drewN | apply below_drew1) | exact HB.out)⟩⟩
              · rw [if_neg c16] at H
                have c16b0 : decide (t520 < (rd l2 0)) = false := decide_eq_false c16
                clear c16
                by_cases c17 : 1 < (l2.length : Int)
                · rw [if_pos c17] at H
                  have c17b0 : decide (1 < (l2.length : Int)) = true := decide_eq_true c17
                  have c17b1 : decide (1 < l2.length) = true := decide_eq_true (by omega)
                  clear c17
                  by_cases c18 : t520 > (rd l2 1)
                  · rw [if_pos c18] at H
                    have c18b0 : decide ((rd l2 1) < t520) = true := decide_eq_true c18
                    clear c18
                    have H' := Aside0.mk H
                    clear H
                    have p527 : 0 ≤ (0 : Int) := (by omega)
                    have q527 : 0 < (l2.length : Int) := of_decide_eq_true (by first | (with_reducible assumption) | assumption)
                    obtain ⟨ad527, e527, hx527_0⟩ := Kd.at_int HR2.out 0 p527 q527
                    cases e527
                    have qi527 : (0 < l2.length) = True := eq_true (by omega)
                    (try rw [show ((0 : Int)).toNat = 0 from rfl] at hx527_0)
                    (try rw [Addr.add_zero'] at hx527_0)
                    replace hx527_0 := (HB.out.cell (World.block_lt_of_cell? w _ hx527_0)).trans hx527_0
                    replace p527 := eq_true p527
                    replace q527 := eq_true q527
                    have p528 : 0 ≤ (1 : Int) := (by omega)
                    have q528 : 1 < (l2.length : Int) := of_decide_eq_true (by first | (with_reducible assumption) | assumption)
                    obtain ⟨ad528, e528, hx528_0⟩ := Kd.at_int HR2.out 1 p528 q528
                    obtain rfl : ad527 = ad528 := (by injection e528)
                    (try simp only [show (1 : Int).toNat = 1 from rfl, Nat.reduceMul, Nat.reduceEqDiff, Go.Addr.add, ↓reduceIte] at hx528_0)
                    have qi528 : (1 < l2.length) = True := eq_true (by omega)
                    (try rw [show ((1 : Int)).toNat = 1 from rfl] at hx528_0)
                    replace hx528_0 := (HB.out.cell (World.block_lt_of_cell? w _ hx528_0)).trans hx528_0
                    replace p528 := eq_true p528
                    replace q528 := eq_true q528
                    go_wp2
                    go_meet
                    case rel => exact ⟨_, (true), (by first | rfl | (simp; done) | (simp [*]; done)), H', ⟨by first | omega | exact Nat.le_refl _⟩, ⟨by repeat (first | (with_reducible first | exact HB.out | apply below_alloc | apply pw_below_drewN | apply below_drew1) | exact HB.out)⟩⟩
                  · rw [if_neg c18] at H
                    have c18b0 : decide ((rd l2 1) < t520) = false := decide_eq_false c18
                    clear c18
                    by_cases c19 : t524 < (rd l2 0)
                    · rw [if_pos c19] at H
                      have c19b0 : decide (t524 < (rd l2 0)) = true := decide_eq_true c19
                      clear c19
                      have H' := Aside0.mk H
                      clear H
                      have p527 : 0 ≤ (0 : Int) := (by omega)
                      have q527 : 0 < (l2.length : Int) := of_decide_eq_true (by first | (with_reducible assumption) | assumption)
                      obtain ⟨ad527, e527, hx527_0⟩ := Kd.at_int HR2.out 0 p527 q527
                      cases e527
                      have qi527 : (0 < l2.length) = True := eq_true (by omega)
                      (try rw [show ((0 : Int)).toNat = 0 from rfl] at hx527_0)
                      (try rw [Addr.add_zero'] at hx527_0)
                      replace hx527_0 := (HB.out.cell (World.block_lt_of_cell? w _ hx527_0)).trans hx527_0
                      replace p527 := eq_true p527
                      replace q527 := eq_true q527
                      have p528 : 0 ≤ (1 : Int) := (by omega)
                      have q528 : 1 < (l2.length : Int) := of_decide_eq_true (by first | (with_reducible assumption) | assumption)
                      obtain ⟨ad528, e528, hx528_0⟩ := Kd.at_int HR2.out 1 p528 q528
                      obtain rfl : ad527 = ad528 := (by injection e528)
                      (try simp only [show (1 : Int).toNat = 1 from rfl, Nat.reduceMul, Nat.reduceEqDiff, Go.Addr.add, ↓reduceIte] at hx528_0)
                      have qi528 : (1 < l2.length) = True := eq_true (by omega)
                      (try rw [show ((1 : Int)).toNat = 1 from rfl] at hx528_0)
                      replace hx528_0 := (HB.out.cell (World.block_lt_of_cell? w _ hx528_0)).trans hx528_0
                      replace p528 := eq_true p528
                      replace q528 := eq_true q528
                      have p529 : 0 ≤ (0 : Int) := (by omega)
                      have q529 : 0 < (l2.length : Int) := of_decide_eq_true (by first | (with_reducible assumption) | assumption)
                      obtain ⟨ad529, e529, hx529_0⟩ := Kd.at_int HR2.out 0 p529 q529
                      obtain rfl : ad527 = ad529 := (by injection e529)
                      have qi529 : (0 < l2.length) = True := eq_true (by omega)
                      (try rw [show ((0 : Int)).toNat = 0 from rfl] at hx529_0)
                      (try rw [Addr.add_zero'] at hx529_0)
                      replace hx529_0 := (HB.out.cell (World.block_lt_of_cell? w _ hx529_0)).trans hx529_0
                      replace p529 := eq_true p529
                      replace q529 := eq_true q529
                      go_wp2
                      go_meet
                      case rel => exact ⟨_, (true), (by first | rfl | (simp; done) | (simp [*]; done)), H', ⟨by first | omega | exact Nat.le_refl _⟩, ⟨by repeat (first | (with_reducible first | exact HB.out | apply below_alloc | apply pw_below_drewN | apply below_drew1) | exact HB.out)⟩⟩
                    · rw [if_neg c19] at H
                      have c19b0 : decide (t524 < (rd l2 0)) = false := decide_eq_false c19
                      clear c19
                      have H' := Aside0.mk H
                      clear H
                      have p527 : 0 ≤ (0 : Int) := (by omega)
                      have q527 : 0 < (l2.length : Int) := of_decide_eq_true (by first | (with_reducible assumption) | assumption)
                      obtain ⟨ad527, e527, hx527_0⟩ := Kd.at_int HR2.out 0 p527 q527
                      cases e527
                      have qi527 : (0 < l2.length) = True := eq_true (by omega)
                      (try rw [show ((0 : Int)).toNat = 0 from rfl] at hx527_0)
                      (try rw [Addr.add_zero'] at hx527_0)
                      replace hx527_0 := (HB.out.cell (World.block_lt_of_cell? w _ hx527_0)).trans hx527_0
                      replace p527 := eq_true p527
                      replace q527 := eq_true q527
                      have p528 : 0 ≤ (1 : Int) := (by omega)
                      have q528 : 1 < (l2.length : Int) := of_decide_eq_true (by first | (with_reducible assumption) | assumption)
                      obtain ⟨ad528, e528, hx528_0⟩ := Kd.at_int HR2.out 1 p528 q528
                      obtain rfl : ad527 = ad528 := (by injection e528)
                      (try simp only [show (1 : Int).toNat = 1 from rfl, Nat.reduceMul, Nat.reduceEqDiff, Go.Addr.add, ↓reduceIte] at hx528_0)
                      have qi528 : (1 < l2.length) = True := eq_true (by omega)
                      (try rw [show ((1 : Int)).toNat = 1 from rfl] at hx528_0)
                      replace hx528_0 := (HB.out.cell (World.block_lt_of_cell? w _ hx528_0)).trans hx528_0
                      replace p528 := eq_true p528
                      replace q528 := eq_true q528
                      have p529 : 0 ≤ (0 : Int) := (by omega)
                      have q529 : 0 < (l2.length : Int) := of_decide_eq_true (by first | (with_reducible assumption) | assumption)
                      obtain ⟨ad529, e529, hx529_0⟩ := Kd.at_int HR2.out 0 p529 q529
                      obtain rfl : ad527 = ad529 := (by injection e529)
                      have qi529 : (0 < l2.length) = True := eq_true (by omega)
                      (try rw [show ((0 : Int)).toNat = 0 from rfl] at hx529_0)
                      (try rw [Addr.add_zero'] at hx529_0)
                      replace hx529_0 := (HB.out.cell (World.block_lt_of_cell? w _ hx529_0)).trans hx529_0
                      replace p529 := eq_true p529
                      replace q529 := eq_true q529
                      have p530 : 0 ≤ (1 : Int) := (by omega)
                      have q530 : 1 < (l2.length : Int) := of_decide_eq_true (by first | (with_reducible assumption) | assumption)
                      obtain ⟨ad530, e530, hx530_0⟩ := Kd.at_int HR2.out 1 p530 q530
                      obtain rfl : ad527 = ad530 := (by injection e530)
                      (try simp only [show (1 : Int).toNat = 1 from rfl, Nat.reduceMul, Nat.reduceEqDiff, Go.Addr.add, ↓reduceIte] at hx530_0)
                      have qi530 : (1 < l2.length) = True := eq_true (by omega)
                      (try rw [show ((1 : Int)).toNat = 1 from rfl] at hx530_0)
                      replace hx530_0 := (HB.out.cell (World.block_lt_of_cell? w _ hx530_0)).trans hx530_0
                      replace p530 := eq_true p530
                      replace q530 := eq_true q530
                      go_wp2
                      go_meet
                      case rel => exact ⟨_, (decide (t524 > (rd l2 1))), (by first | rfl | (simp; done) | (simp [*]; done)), H', ⟨by first | omega | exact Nat.le_refl _⟩, ⟨by repeat (first | (with_reducible first | exact HB.out | apply below_alloc | apply pw_below_drewN | apply below_drew1) | exact HB.out)⟩⟩
                · rw [if_neg c17] at H
                  exact absurd H (by simp)
            · rw [if_neg c15] at H
              exact absurd H (by simp)
          case rest =>
            clear HC10
            try clear c1
            try clear c2
            try clear p2
            try clear c5
            try clear p5
            try clear q5
            try clear hx5
            try clear qi5
            try clear c6
            try clear c6b0
            try clear c6b1
            try clear c8
            try clear c8b0
            try clear c8b1
            try clear c15
            try clear c15b0
            try clear c15b1
            try clear c16
            try clear c16b0
            try clear c17
            try clear c17b0
            try clear c17b1
            try clear c18
            try clear c18b0
            try clear c19
            try clear c19b0
            try clear hx519_0
            try clear hx523_0
            try clear hx527_0
            try clear hx528_0
            try clear hx529_0
            try clear hx530_0
            try clear p519
            try clear p523
            try clear p527
            try clear p528
            try clear p529
            try clear p530
            try clear q519
            try clear q522
            try clear q523
            try clear q526
            try clear q527
            try clear q528
            try clear q529
            try clear q530
            obtain ⟨kq, x61_9, rfl, HA, HJ9, HB⟩ := hcut
            cases kq with
            | zero => exact absurd HA.out (by simp [gronx_inRange.j0])
            | succ kj9 =>
              have H := HA.out
              clear HA
              simp only [gronx_inRange.j0] at H
              by_cases c20 : x61_9 = true
              · subst c20
                have H1 : ((errors_New.f (⟨#[114, 97, 110, 103, 101, 32, 111, 117, 116, 32, 111, 102, 32, 98, 111, 117, 110, 100, 115, 40, 44, 32, 41]⟩ : ByteArray)).bind fun t531 => (some (false, t531))) = some (r1, r2) := by rw [if_pos rfl] at H; exact H
                clear H
                have H := H1
                clear H1
                replace H := Option.bind_eq_some_iff.mp H
                obtain ⟨t531, A210, H⟩ := H
                replace H : (some (false, t531)) = some (r1, r2) := H
                have A21 := Aside0.mk A210
                clear A210
                simp only [Option.some.injEq, Prod.mk.injEq] at H
                obtain ⟨rfl, rfl⟩ := H
                go_wp2_with (first | ((with_reducible refine gate_callee (f := 51) rfl ?_); refine goesL_ (some 62) rfl rfl Tryz.func51 (by kernel_rfl) rfl #[.string (⟨#[114, 97, 110, 103, 101, 32, 111, 117, 116, 32, 111, 102, 32, 98, 111, 117, 110, 100, 115, 40, 44, 32, 41]⟩ : ByteArray)] rfl (by (try simp only [List.map_toArray, List.map_cons, List.map_nil]); first | done | rfl | (simp only [List.length_drop, List.length_take]; rfl)) ?_; (with_reducible refine (errors_New.calls (⟨#[114, 97, 110, 103, 101, 32, 111, 117, 116, 32, 111, 102, 32, 98, 111, 117, 110, 100, 115, 40, 44, 32, 41]⟩ : ByteArray) t531 _ A21.out).mono ?_); rintro e w22 ⟨rfl, hb⟩; refine ⟨_, rfl, ?_⟩; have n0_ := Aside0.mk (below_step (by repeat (first | (with_reducible first | exact HB.out | apply below_alloc | apply pw_below_drewN | apply below_drew1) | exact HB.out)) hb); clear HB; have HB := n0_; clear n0_; (try clear hb); (try clear hb2); (try clear hk); (try clear hi); (try simp only [errW_none, errW_some])))
                go_ret2
                exact ⟨by first | rfl | (simp [errW_none, errW_some] <;> rfl) | (simp [*, errW_none, errW_some] <;> rfl), by repeat (first | (with_reducible first | exact HB.out | apply below_alloc | apply pw_below_drewN | apply below_drew1) | exact HB.out)⟩
              · replace c20 := Bool.eq_false_iff.mpr c20
                subst c20
                have H1 : (if a3 = true then (if t520 = 7 then (gronx_inRange.j1 kj9 a0 t520 t524 (t524 != 7)) else (gronx_inRange.j1 kj9 a0 t520 t524 false)) else (if t524 < t520 then ((errors_New.f (⟨#[114, 97, 110, 103, 101, 32, 111, 117, 116, 32, 111, 102, 32, 98, 111, 117, 110, 100, 115, 40, 44, 32, 41]⟩ : ByteArray)).bind fun t534 => (some (false, t534))) else (if t520 ≤ a0 then (some (decide (a0 ≤ t524), none)) else (some (false, none))))) = some (r1, r2) := by rw [if_neg (show ¬ (false = true) by decide)] at H; exact H
                clear H
                have H := H1
                clear H1
                by_cases c23 : a3 = true
                · subst c23
                  have H1 : (if t520 = 7 then (gronx_inRange.j1 kj9 a0 t520 t524 (t524 != 7)) else (gronx_inRange.j1 kj9 a0 t520 t524 false)) = some (r1, r2) := by rw [if_pos rfl] at H; exact H
                  clear H
                  have H := H1
                  clear H1
                  have HC24 := Aside0.mk H
                  clear H
                  go_upto_region 11 with (fail)
                  go_cut [69] (fun v69 wc => ∃ (kq : Nat) (x69_23 : Bool), v69 = .bool x69_23 ∧ Aside0 (gronx_inRange.j1 kq a0 t520 t524 x69_23 = some (r1, r2)) ∧ Aside0 (kq ≤ kj9) ∧ Aside0 (Below w.heap.size w wc))
                  case first =>
                    have H := HC24.out
                    clear HC24
                    by_cases c25 : t520 = 7
                    · rw [if_pos c25] at H
                      have c25b0 : (t520 == 7) = true := beq_iff_eq.mpr c25
                      have c25b1 : (t520 != 7) = false := bne_eq_false_iff_eq.mpr c25
                      clear c25
                      (first | rw [c25b0] | (simp only [i64_w, i32_w]; rw [c25b0]) | skip)
                      have H' := Aside0.mk H
                      clear H
                      go_wp2
                      go_meet
                      case rel => exact ⟨_, ((t524 != 7)), (by first | rfl | (simp; done) | (simp [*]; done)), H', ⟨by have := HJ9.out; first | omega | exact Nat.le_refl _⟩, ⟨by repeat (first | (with_reducible first | exact HB.out | apply below_alloc | apply pw_below_drewN | apply below_drew1) | exact HB.out)⟩⟩
                    · rw [if_neg c25] at H
                      have c25b0 : (t520 == 7) = false := beq_eq_false_iff_ne.mpr c25
                      have c25b1 : (t520 != 7) = true := bne_iff_ne.mpr c25
                      (first | rw [c25b0] | (simp only [i64_w, i32_w]; rw [c25b0]) | skip)
                      have H' := Aside0.mk H
                      clear H
                      go_wp2
                      go_meet
                      case rel => exact ⟨_, (false), (by first | rfl | (simp; done) | (simp [*]; done)), H', ⟨by have := HJ9.out; first | omega | exact Nat.le_refl _⟩, ⟨by repeat (first | (with_reducible first | exact HB.out | apply below_alloc | apply pw_below_drewN | apply below_drew1) | exact HB.out)⟩⟩
                  case rest =>
                    clear HC24
                    try clear c1
                    try clear c2
                    try clear p2
                    try clear c5
                    try clear p5
                    try clear q5
                    try clear hx5
                    try clear qi5
                    try clear c6
                    try clear c6b0
                    try clear c6b1
                    try clear c8
                    try clear c8b0
                    try clear c8b1
                    try clear c15
                    try clear c15b0
                    try clear c15b1
                    try clear c16
                    try clear c16b0
                    try clear c17
                    try clear c17b0
                    try clear c17b1
                    try clear c18
                    try clear c18b0
                    try clear c19
                    try clear c19b0
                    try clear c20
                    try clear c23
                    try clear c25
                    try clear c25b0
                    try clear c25b1
                    try clear hx519_0
                    try clear hx523_0
                    try clear hx527_0
                    try clear hx528_0
                    try clear hx529_0
                    try clear hx530_0
                    try clear p2
                    try clear p5
                    try clear p519
                    try clear p523
                    try clear p527
                    try clear p528
                    try clear p529
                    try clear p530
                    try clear q5
                    try clear q519
                    try clear q522
                    try clear q523
                    try clear q526
                    try clear q527
                    try clear q528
                    try clear q529
                    try clear q530
                    obtain ⟨kq, x69_23, rfl, HA, HJ23, HB⟩ := hcut
                    cases kq with
                    | zero => exact absurd HA.out (by simp [gronx_inRange.j1])
                    | succ kj23 =>
                      have H := HA.out
                      clear HA
                      simp only [gronx_inRange.j1] at H
                      have HC26 := Aside0.mk H
                      clear H
                      go_upto_if 69 with (fail)
                      go_cut [11] (fun v11 wc => ∃ (kq : Nat) (x11_25 : Int), v11 = .int .i64 x11_25 ∧ Aside0 (gronx_inRange.j2 kq a0 x11_25 t524 = some (r1, r2)) ∧ Aside0 (kq ≤ kj23) ∧ Aside0 (Below w.heap.size w wc))
                      case first =>
                        have H := HC26.out
                        clear HC26
                        by_cases c27 : x69_23 = true
                        · subst c27
                          have H1 : (gronx_inRange.j2 kj23 a0 0 t524) = some (r1, r2) := by rw [if_pos rfl] at H; exact H
                          clear H
                          have H := H1
                          clear H1
                          have H' := Aside0.mk H
                          clear H
                          go_wp2
                          go_meet
                          case rel => exact ⟨_, (0), (by first | rfl | (simp; done) | (simp [*]; done)), H', ⟨by have := HJ9.out; have := HJ23.out; first | omega | exact Nat.le_refl _⟩, ⟨by repeat (first | (with_reducible first | exact HB.out | apply below_alloc | apply pw_below_drewN | apply below_drew1) | exact HB.out)⟩⟩
                        · replace c27 := Bool.eq_false_iff.mpr c27
                          subst c27
                          have H1 : (gronx_inRange.j2 kj23 a0 t520 t524) = some (r1, r2) := by rw [if_neg (show ¬ (false = true) by decide)] at H; exact H
                          clear H
                          have H := H1
                          clear H1
                          have H' := Aside0.mk H
                          clear H
                          go_wp2
                          go_meet
                          case rel => exact ⟨_, (t520), (by first | rfl | (simp; done) | (simp [*]; done)), H', ⟨by have := HJ9.out; have := HJ23.out; first | omega | exact Nat.le_refl _⟩, ⟨by repeat (first | (with_reducible first | exact HB.out | apply below_alloc | apply pw_below_drewN | apply below_drew1) | exact HB.out)⟩⟩
                      case rest =>
                        clear HC26
                        try clear c1
                        try clear c2
                        try clear p2
                        try clear c5
                        try clear p5
                        try clear q5
                        try clear hx5
                        try clear qi5
                        try clear c6
                        try clear c6b0
                        try clear c6b1
                        try clear c8
                        try clear c8b0
                        try clear c8b1
                        try clear c15
                        try clear c15b0
                        try clear c15b1
                        try clear c16
                        try clear c16b0
                        try clear c17
                        try clear c17b0
                        try clear c17b1
                        try clear c18
                        try clear c18b0
                        try clear c19
                        try clear c19b0
                        try clear c20
                        try clear c23
                        try clear c25
                        try clear c25b0
                        try clear c25b1
                        try clear c27
                        try clear hx519_0
                        try clear hx523_0
                        try clear hx527_0
                        try clear hx528_0
                        try clear hx529_0
                        try clear hx530_0
                        try clear p2
                        try clear p5
                        try clear p519
                        try clear p523
                        try clear p527
                        try clear p528
                        try clear p529
                        try clear p530
                        try clear q5
                        try clear q519
                        try clear q522
                        try clear q523
                        try clear q526
                        try clear q527
                        try clear q528
                        try clear q529
                        try clear q530
                        obtain ⟨kq, x11_25, rfl, HA, HJ25, HB⟩ := hcut
                        cases kq with
                        | zero => exact absurd HA.out (by simp [gronx_inRange.j2])
                        | succ kj25 =>
                          have H := HA.out
                          clear HA
                          simp only [gronx_inRange.j2] at H
                          have HC28 := Aside0.mk H
                          clear H
                          go_upto_region 13 with (fail)
                          go_cut [75] (fun v75 wc => ∃ (kq : Nat) (x75_27 : Bool), v75 = .bool x75_27 ∧ Aside0 (gronx_inRange.j3 kq a0 x11_25 t524 x75_27 = some (r1, r2)) ∧ Aside0 (kq ≤ kj25) ∧ Aside0 (Below w.heap.size w wc))
                          case first =>
                            have H := HC28.out
                            clear HC28
                            by_cases c29 : t524 = 7
                            · rw [if_pos c29] at H
                              have c29b0 : (t524 == 7) = true := beq_iff_eq.mpr c29
                              have c29b1 : (t524 != 7) = false := bne_eq_false_iff_eq.mpr c29
                              clear c29
                              (first | rw [c29b0] | (simp only [i64_w, i32_w]; rw [c29b0]) | skip)
                              have H' := Aside0.mk H
                              clear H
                              go_wp2
                              go_meet
                              case rel => exact ⟨_, ((a0 == 0)), (by first | rfl | (simp; done) | (simp [*]; done)), H', ⟨by have := HJ9.out; have := HJ23.out; have := HJ25.out; first | omega | exact Nat.le_refl _⟩, ⟨by repeat (first | (with_reducible first | exact HB.out | apply below_alloc | apply pw_below_drewN | apply below_drew1) | exact HB.out)⟩⟩
                            · rw [if_neg c29] at H
                              have c29b0 : (t524 == 7) = false := beq_eq_false_iff_ne.mpr c29
                              have c29b1 : (t524 != 7) = true := bne_iff_ne.mpr c29
                              (first | rw [c29b0] | (simp only [i64_w, i32_w]; rw [c29b0]) | skip)
                              have H' := Aside0.mk H
                              clear H
                              go_wp2
                              go_meet
                              case rel => exact ⟨_, (false), (by first | rfl | (simp; done) | (simp [*]; done)), H', ⟨by have := HJ9.out; have := HJ23.out; have := HJ25.out; first | omega | exact Nat.le_refl _⟩, ⟨by repeat (first | (with_reducible first | exact HB.out | apply below_alloc | apply pw_below_drewN | apply below_drew1) | exact HB.out)⟩⟩
                          case rest =>
                            clear HC28
                            try clear c1
                            try clear c2
                            try clear p2
                            try clear c5
                            try clear p5
                            try clear q5
                            try clear hx5
                            try clear qi5
                            try clear c6
                            try clear c6b0
                            try clear c6b1
                            try clear c8
                            try clear c8b0
                            try clear c8b1
                            try clear c15
                            try clear c15b0
                            try clear c15b1
                            try clear c16
                            try clear c16b0
                            try clear c17
                            try clear c17b0
                            try clear c17b1
                            try clear c18
                            try clear c18b0
                            try clear c19
                            try clear c19b0
                            try clear c20
                            try clear c23
                            try clear c25
                            try clear c25b0
                            try clear c25b1
                            try clear c27
                            try clear c29
                            try clear c29b0
                            try clear c29b1
                            try clear hx519_0
                            try clear hx523_0
                            try clear hx527_0
                            try clear hx528_0
                            try clear hx529_0
                            try clear hx530_0
                            try clear p2
                            try clear p5
                            try clear p519
                            try clear p523
                            try clear p527
                            try clear p528
                            try clear p529
                            try clear p530
                            try clear q5
                            try clear q519
                            try clear q522
                            try clear q523
                            try clear q526
                            try clear q527
                            try clear q528
                            try clear q529
                            try clear q530
                            obtain ⟨kq, x75_27, rfl, HA, HJ27, HB⟩ := hcut
                            cases kq with
                            | zero => exact absurd HA.out (by simp [gronx_inRange.j3])
                            | succ kj27 =>
                              have H := HA.out
                              clear HA
                              simp only [gronx_inRange.j3] at H
                              by_cases c30 : x75_27 = true
                              · subst c30
                                have H1 : (if t524 < x11_25 then ((errors_New.f (⟨#[114, 97, 110, 103, 101, 32, 111, 117, 116, 32, 111, 102, 32, 98, 111, 117, 110, 100, 115, 40, 44, 32, 41]⟩ : ByteArray)).bind fun t532 => (some (false, t532))) else (if x11_25 ≤ 7 then (some (decide (7 ≤ t524), none)) else (some (false, none)))) = some (r1, r2) := by rw [if_pos rfl] at H; exact H
                                clear H
                                have H := H1
                                clear H1
                                by_cases c31 : t524 < x11_25
                                · rw [if_pos c31] at H
                                  have c31b0 : decide (t524 < x11_25) = true := decide_eq_true c31
                                  clear c31
                                  replace H := Option.bind_eq_some_iff.mp H
                                  obtain ⟨t532, A320, H⟩ := H
                                  replace H : (some (false, t532)) = some (r1, r2) := H
                                  have A32 := Aside0.mk A320
                                  clear A320
                                  simp only [Option.some.injEq, Prod.mk.injEq] at H
                                  obtain ⟨rfl, rfl⟩ := H
                                  go_wp2_with (first | ((with_reducible refine gate_callee (f := 51) rfl ?_); refine goesL_ (some 79) rfl rfl Tryz.func51 (by kernel_rfl) rfl #[.string (⟨#[114, 97, 110, 103, 101, 32, 111, 117, 116, 32, 111, 102, 32, 98, 111, 117, 110, 100, 115, 40, 44, 32, 41]⟩ : ByteArray)] rfl (by (try simp only [List.map_toArray, List.map_cons, List.map_nil]); first | done | rfl | (simp only [List.length_drop, List.length_take]; rfl)) ?_; (with_reducible refine (errors_New.calls (⟨#[114, 97, 110, 103, 101, 32, 111, 117, 116, 32, 111, 102, 32, 98, 111, 117, 110, 100, 115, 40, 44, 32, 41]⟩ : ByteArray) t532 _ A32.out).mono ?_); rintro e w33 ⟨rfl, hb⟩; refine ⟨_, rfl, ?_⟩; have n0_ := Aside0.mk (below_step (by repeat (first | (with_reducible first | exact HB.out | apply below_alloc | apply pw_below_drewN | apply below_drew1) | exact HB.out)) hb); clear HB; have HB := n0_; clear n0_; (try clear hb); (try clear hb2); (try clear hk); (try clear hi); (try simp only [errW_none, errW_some])))
                                  go_ret2
                                  exact ⟨by first | rfl | (simp [errW_none, errW_some] <;> rfl) | (simp [*, errW_none, errW_some] <;> rfl), by repeat (first | (with_reducible first | exact HB.out | apply below_alloc | apply pw_below_drewN | apply below_drew1) | exact HB.out)⟩
                                · rw [if_neg c31] at H
                                  have c31b0 : decide (t524 < x11_25) = false := decide_eq_false c31
                                  clear c31
                                  by_cases c34 : x11_25 ≤ 7
                                  · rw [if_pos c34] at H
                                    have c34b0 : decide (x11_25 ≤ 7) = true := decide_eq_true c34
                                    clear c34
                                    simp only [Option.some.injEq, Prod.mk.injEq] at H
                                    obtain ⟨rfl, rfl⟩ := H
                                    go_wp2
                                    go_ret2
                                    exact ⟨by first | rfl | (simp [errW_none, errW_some] <;> rfl) | (simp [*, errW_none, errW_some] <;> rfl), by repeat (first | (with_reducible first | exact HB.out | apply below_alloc | apply pw_below_drewN | apply below_drew1) | exact HB.out)⟩
                                  · rw [if_neg c34] at H
                                    have c34b0 : decide (x11_25 ≤ 7) = false := decide_eq_false c34
                                    clear c34
                                    simp only [Option.some.injEq, Prod.mk.injEq] at H
                                    obtain ⟨rfl, rfl⟩ := H
                                    go_wp2
                                    go_ret2
                                    exact ⟨by first | rfl | (simp [errW_none, errW_some] <;> rfl) | (simp [*, errW_none, errW_some] <;> rfl), by repeat (first | (with_reducible first | exact HB.out | apply below_alloc | apply pw_below_drewN | apply below_drew1) | exact HB.out)⟩
                              · replace c30 := Bool.eq_false_iff.mpr c30
                                subst c30
                                have H1 : (if t524 < x11_25 then ((errors_New.f (⟨#[114, 97, 110, 103, 101, 32, 111, 117, 116, 32, 111, 102, 32, 98, 111, 117, 110, 100, 115, 40, 44, 32, 41]⟩ : ByteArray)).bind fun t533 => (some (false, t533))) else (if x11_25 ≤ a0 then (some (decide (a0 ≤ t524), none)) else (some (false, none)))) = some (r1, r2) := by rw [if_neg (show ¬ (false = true) by decide)] at H; exact H
                                clear H
                                have H := H1
                                clear H1
                                by_cases c35 : t524 < x11_25
                                · rw [if_pos c35] at H
                                  have c35b0 : decide (t524 < x11_25) = true := decide_eq_true c35
                                  clear c35
                                  replace H := Option.bind_eq_some_iff.mp H
                                  obtain ⟨t533, A360, H⟩ := H
                                  replace H : (some (false, t533)) = some (r1, r2) := H
                                  have A36 := Aside0.mk A360
                                  clear A360
                                  simp only [Option.some.injEq, Prod.mk.injEq] at H
                                  obtain ⟨rfl, rfl⟩ := H
                                  go_wp2_with (first | ((with_reducible refine gate_callee (f := 51) rfl ?_); refine goesL_ (some 79) rfl rfl Tryz.func51 (by kernel_rfl) rfl #[.string (⟨#[114, 97, 110, 103, 101, 32, 111, 117, 116, 32, 111, 102, 32, 98, 111, 117, 110, 100, 115, 40, 44, 32, 41]⟩ : ByteArray)] rfl (by (try simp only [List.map_toArray, List.map_cons, List.map_nil]); first | done | rfl | (simp only [List.length_drop, List.length_take]; rfl)) ?_; (with_reducible refine (errors_New.calls (⟨#[114, 97, 110, 103, 101, 32, 111, 117, 116, 32, 111, 102, 32, 98, 111, 117, 110, 100, 115, 40, 44, 32, 41]⟩ : ByteArray) t533 _ A36.out).mono ?_); rintro e w37 ⟨rfl, hb⟩; refine ⟨_, rfl, ?_⟩; have n0_ := Aside0.mk (below_step (by repeat (first | (with_reducible first | exact HB.out | apply below_alloc | apply pw_below_drewN | apply below_drew1) | exact HB.out)) hb); clear HB; have HB := n0_; clear n0_; (try clear hb); (try clear hb2); (try clear hk); (try clear hi); (try simp only [errW_none, errW_some])))
                                  go_ret2
                                  exact ⟨by first | rfl | (simp [errW_none, errW_some] <;> rfl) | (simp [*, errW_none, errW_some] <;> rfl), by repeat (first | (with_reducible first | exact HB.out | apply below_alloc | apply pw_below_drewN | apply below_drew1) | exact HB.out)⟩
                                · rw [if_neg c35] at H
                                  have c35b0 : decide (t524 < x11_25) = false := decide_eq_false c35
                                  clear c35
                                  by_cases c38 : x11_25 ≤ a0
                                  · rw [if_pos c38] at H
                                    have c38b0 : decide (x11_25 ≤ a0) = true := decide_eq_true c38
                                    clear c38
                                    simp only [Option.some.injEq, Prod.mk.injEq] at H
                                    obtain ⟨rfl, rfl⟩ := H
                                    go_wp2
                                    go_ret2
                                    exact ⟨by first | rfl | (simp [errW_none, errW_some] <;> rfl) | (simp [*, errW_none, errW_some] <;> rfl), by repeat (first | (with_reducible first | exact HB.out | apply below_alloc | apply pw_below_drewN | apply below_drew1) | exact HB.out)⟩
                                  · rw [if_neg c38] at H
                                    have c38b0 : decide (x11_25 ≤ a0) = false := decide_eq_false c38
                                    clear c38
                                    simp only [Option.some.injEq, Prod.mk.injEq] at H
                                    obtain ⟨rfl, rfl⟩ := H
                                    go_wp2
                                    go_ret2
                                    exact ⟨by first | rfl | (simp [errW_none, errW_some] <;> rfl) | (simp [*, errW_none, errW_some] <;> rfl), by repeat (first | (with_reducible first | exact HB.out | apply below_alloc | apply pw_below_drewN | apply below_drew1) | exact HB.out)⟩
                · replace c23 := Bool.eq_false_iff.mpr c23
                  subst c23
                  have H1 : (if t524 < t520 then ((errors_New.f (⟨#[114, 97, 110, 103, 101, 32, 111, 117, 116, 32, 111, 102, 32, 98, 111, 117, 110, 100, 115, 40, 44, 32, 41]⟩ : ByteArray)).bind fun t534 => (some (false, t534))) else (if t520 ≤ a0 then (some (decide (a0 ≤ t524), none)) else (some (false, none)))) = some (r1, r2) := by rw [if_neg (show ¬ (false = true) by decide)] at H; exact H
                  clear H
                  have H := H1
                  clear H1
                  by_cases c39 : t524 < t520
                  · rw [if_pos c39] at H
                    have c39b0 : decide (t524 < t520) = true := decide_eq_true c39
                    clear c39
                    replace H := Option.bind_eq_some_iff.mp H
                    obtain ⟨t534, A400, H⟩ := H
                    replace H : (some (false, t534)) = some (r1, r2) := H
                    have A40 := Aside0.mk A400
                    clear A400
                    simp only [Option.some.injEq, Prod.mk.injEq] at H
                    obtain ⟨rfl, rfl⟩ := H
                    go_wp2_with (first | ((with_reducible refine gate_callee (f := 51) rfl ?_); refine goesL_ (some 79) rfl rfl Tryz.func51 (by kernel_rfl) rfl #[.string (⟨#[114, 97, 110, 103, 101, 32, 111, 117, 116, 32, 111, 102, 32, 98, 111, 117, 110, 100, 115, 40, 44, 32, 41]⟩ : ByteArray)] rfl (by (try simp only [List.map_toArray, List.map_cons, List.map_nil]); first | done | rfl | (simp only [List.length_drop, List.length_take]; rfl)) ?_; (with_reducible refine (errors_New.calls (⟨#[114, 97, 110, 103, 101, 32, 111, 117, 116, 32, 111, 102, 32, 98, 111, 117, 110, 100, 115, 40, 44, 32, 41]⟩ : ByteArray) t534 _ A40.out).mono ?_); rintro e w41 ⟨rfl, hb⟩; refine ⟨_, rfl, ?_⟩; have n0_ := Aside0.mk (below_step (by repeat (first | (with_reducible first | exact HB.out | apply below_alloc | apply pw_below_drewN | apply below_drew1) | exact HB.out)) hb); clear HB; have HB := n0_; clear n0_; (try clear hb); (try clear hb2); (try clear hk); (try clear hi); (try simp only [errW_none, errW_some])))
                    go_ret2
                    exact ⟨by first | rfl | (simp [errW_none, errW_some] <;> rfl) | (simp [*, errW_none, errW_some] <;> rfl), by repeat (first | (with_reducible first | exact HB.out | apply below_alloc | apply pw_below_drewN | apply below_drew1) | exact HB.out)⟩
                  · rw [if_neg c39] at H
                    have c39b0 : decide (t524 < t520) = false := decide_eq_false c39
                    clear c39
                    by_cases c42 : t520 ≤ a0
                    · rw [if_pos c42] at H
                      have c42b0 : decide (t520 ≤ a0) = true := decide_eq_true c42
                      clear c42
                      simp only [Option.some.injEq, Prod.mk.injEq] at H
                      obtain ⟨rfl, rfl⟩ := H
                      go_wp2
                      go_ret2
                      exact ⟨by first | rfl | (simp [errW_none, errW_some] <;> rfl) | (simp [*, errW_none, errW_some] <;> rfl), by repeat (first | (with_reducible first | exact HB.out | apply below_alloc | apply pw_below_drewN | apply below_drew1) | exact HB.out)⟩
                    · rw [if_neg c42] at H
                      have c42b0 : decide (t520 ≤ a0) = false := decide_eq_false c42
                      clear c42
                      simp only [Option.some.injEq, Prod.mk.injEq] at H
                      obtain ⟨rfl, rfl⟩ := H
                      go_wp2
                      go_ret2
                      exact ⟨by first | rfl | (simp [errW_none, errW_some] <;> rfl) | (simp [*, errW_none, errW_some] <;> rfl), by repeat (first | (with_reducible first | exact HB.out | apply below_alloc | apply pw_below_drewN | apply below_drew1) | exact HB.out)⟩
        · have H1 : (some (false, some q526)) = some (r1, r2) := by rw [if_neg (show ¬ (some q526).isNone = true by simp)] at H; exact H
          clear H
          have H := H1
          clear H1
          try simp only [errW_none, errW_some]
          simp only [Option.some.injEq, Prod.mk.injEq] at H
          obtain ⟨rfl, rfl⟩ := H
          go_enter Tryz.func87, Tryz.ntmps87
          go_wp2_with (first | ((with_reducible refine gate_callee (f := 54) rfl ?_); refine goesL_ (some 15) rfl rfl Tryz.func54 (by kernel_rfl) rfl #[.string a1, .string (⟨#[45]⟩ : ByteArray)] rfl (by (try simp only [List.map_toArray, List.map_cons, List.map_nil]); first | done | rfl | (simp only [List.length_drop, List.length_take]; rfl)) ?_; (with_reducible refine (gronx_zzSplit.calls k a1 (⟨#[45]⟩ : ByteArray) t516 _ A5.out).mono ?_); rintro e w43 ⟨v517, rfl, ho0, hb⟩; refine ⟨_, rfl, ?_⟩; have n0_ := Aside0.mk (Kd.R_lower ho0 (below_size (by repeat (first | (with_reducible first | exact HB.out | apply below_alloc | apply pw_below_drewN | apply below_drew1) | exact HB.out)))); have n1_ := Aside0.mk (below_step (by repeat (first | (with_reducible first | exact HB.out | apply below_alloc | apply pw_below_drewN | apply below_drew1) | exact HB.out)) hb); clear HB; have HO518 := n0_; have HB := n1_; clear n0_ n1_; (try clear hb); (try clear hb2); (try clear hk); (try clear hi); (try clear ho0); obtain ⟨Ao44, co44, eo44⟩ := Kd.R_slice HO518.out; subst eo44; have p519 : 0 ≤ (0 : Int) := (by omega); have q519 : 0 < (t516.length : Int) := of_decide_eq_true (by first | (with_reducible assumption) | assumption); obtain ⟨ad519, e519, hx519_0⟩ := Kd.at_string (Kd.R_reads' HO518.out).2.2 0 p519 q519; cases e519; have qi519 : (0 < t516.length) = True := eq_true (by omega); (try rw [show ((0 : Int)).toNat = 0 from rfl] at hx519_0); (try rw [Addr.add_zero'] at hx519_0); replace p519 := eq_true p519; replace q519 := eq_true q519) | ((with_reducible refine gate_callee (f := 88) rfl ?_); refine goesL_ (some 20) rfl rfl Tryz.func88 (by kernel_rfl) rfl #[.string (rdOf ByteArray.empty t516 0)] rfl (by (try simp only [List.map_toArray, List.map_cons, List.map_nil]); first | done | rfl | (simp only [List.length_drop, List.length_take]; rfl)) ?_; (with_reducible refine (strconv_Atoi.calls (rdOf ByteArray.empty t516 0) t520 none _ A7.out).mono ?_); rintro e w45 ⟨rfl, hb⟩; refine ⟨_, rfl, ?_⟩; have n0_ := Aside0.mk (Kd.R_below (by (with_reducible repeat (first | apply Kd.R_alloc | apply Kd.R_drewN | apply Kd.R_drew)); exact HO518.out) hb); have n1_ := Aside0.mk (below_step (by repeat (first | (with_reducible first | exact HB.out | apply below_alloc | apply pw_below_drewN | apply below_drew1) | exact HB.out)) hb); clear HO518; clear HB; have HO518 := n0_; have HB := n1_; clear n0_ n1_; (try clear hb); (try clear hb2); (try clear hk); (try clear hi); (try simp only [errW_none, errW_some]); have p523 : 0 ≤ (1 : Int) := (by omega); have q523 : 1 < (t516.length : Int) := of_decide_eq_true (by first | (with_reducible assumption) | assumption); obtain ⟨ad523, e523, hx523_0⟩ := Kd.at_string (Kd.R_reads' HO518.out).2.2 1 p523 q523; obtain rfl : ad519 = ad523 := (by injection e523); (try simp only [show (1 : Int).toNat = 1 from rfl, Nat.reduceMul, Nat.reduceEqDiff, Go.Addr.add, ↓reduceIte] at hx523_0); have qi523 : (1 < t516.length) = True := eq_true (by omega); (try rw [show ((1 : Int)).toNat = 1 from rfl] at hx523_0); replace p523 := eq_true p523; replace q523 := eq_true q523) | ((with_reducible refine gate_callee (f := 88) rfl ?_); refine goesL_ (some 30) rfl rfl Tryz.func88 (by kernel_rfl) rfl #[.string (rdOf ByteArray.empty t516 1)] rfl (by (try simp only [List.map_toArray, List.map_cons, List.map_nil]); first | done | rfl | (simp only [List.length_drop, List.length_take]; rfl)) ?_; (with_reducible refine (strconv_Atoi.calls (rdOf ByteArray.empty t516 1) t524 (some q526) _ A9.out).mono ?_); rintro e w46 ⟨rfl, hb⟩; refine ⟨_, rfl, ?_⟩; have n0_ := Aside0.mk (Kd.R_below (by (with_reducible repeat (first | apply Kd.R_alloc | apply Kd.R_drewN | apply Kd.R_drew)); exact HO518.out) hb); have n1_ := Aside0.mk (below_step (by repeat (first | (with_reducible first | exact HB.out | apply below_alloc | apply pw_below_drewN | apply below_drew1) | exact HB.out)) hb); clear HO518; clear HB; have HO518 := n0_; have HB := n1_; clear n0_ n1_; (try clear hb); (try clear hb2); (try clear hk); (try clear hi); (try simp only [errW_none, errW_some])))
          go_ret2
          exact ⟨by first | rfl | (simp [errW_none, errW_some] <;> rfl) | (simp [*, errW_none, errW_some] <;> rfl), by repeat (first | (with_reducible first | exact HB.out | apply below_alloc | apply pw_below_drewN | apply below_drew1) | exact HB.out)⟩
      · rw [if_neg c8] at H
        exact absurd H (by simp)
    · have H1 : (some (false, some q522)) = some (r1, r2) := by rw [if_neg (show ¬ (some q522).isNone = true by simp)] at H; exact H
      clear H
      have H := H1
      clear H1
      try simp only [errW_none, errW_some]
      simp only [Option.some.injEq, Prod.mk.injEq] at H
      obtain ⟨rfl, rfl⟩ := H
      go_enter Tryz.func87, Tryz.ntmps87
      go_wp2_with (first | ((with_reducible refine gate_callee (f := 54) rfl ?_); refine goesL_ (some 15) rfl rfl Tryz.func54 (by kernel_rfl) rfl #[.string a1, .string (⟨#[45]⟩ : ByteArray)] rfl (by (try simp only [List.map_toArray, List.map_cons, List.map_nil]); first | done | rfl | (simp only [List.length_drop, List.length_take]; rfl)) ?_; (with_reducible refine (gronx_zzSplit.calls k a1 (⟨#[45]⟩ : ByteArray) t516 _ A5.out).mono ?_); rintro e w47 ⟨v517, rfl, ho0, hb⟩; refine ⟨_, rfl, ?_⟩; have n0_ := Aside0.mk (Kd.R_lower ho0 (below_size (by repeat (first | (with_reducible first | exact HB.out | apply below_alloc | apply pw_below_drewN | apply below_drew1) | exact HB.out)))); have n1_ := Aside0.mk (below_step (by repeat (first | (with_reducible first | exact HB.out | apply below_alloc | apply pw_below_drewN | apply below_drew1) | exact HB.out)) hb); clear HB; have HO518 := n0_; have HB := n1_; clear n0_ n1_; (try clear hb); (try clear hb2); (try clear hk); (try clear hi); (try clear ho0); obtain ⟨Ao48, co48, eo48⟩ := Kd.R_slice HO518.out; subst eo48; have p519 : 0 ≤ (0 : Int) := (by omega); have q519 : 0 < (t516.length : Int) := of_decide_eq_true (by first | (with_reducible assumption) | assumption); obtain ⟨ad519, e519, hx519_0⟩ := Kd.at_string (Kd.R_reads' HO518.out).2.2 0 p519 q519; cases e519; have qi519 : (0 < t516.length) = True := eq_true (by omega); (try rw [show ((0 : Int)).toNat = 0 from rfl] at hx519_0); (try rw [Addr.add_zero'] at hx519_0); replace p519 := eq_true p519; replace q519 := eq_true q519) | ((with_reducible refine gate_callee (f := 88) rfl ?_); refine goesL_ (some 20) rfl rfl Tryz.func88 (by kernel_rfl) rfl #[.string (rdOf ByteArray.empty t516 0)] rfl (by (try simp only [List.map_toArray, List.map_cons, List.map_nil]); first | done | rfl | (simp only [List.length_drop, List.length_take]; rfl)) ?_; (with_reducible refine (strconv_Atoi.calls (rdOf ByteArray.empty t516 0) t520 (some q522) _ A7.out).mono ?_); rintro e w49 ⟨rfl, hb⟩; refine ⟨_, rfl, ?_⟩; have n0_ := Aside0.mk (Kd.R_below (by (with_reducible repeat (first | apply Kd.R_alloc | apply Kd.R_drewN | apply Kd.R_drew)); exact HO518.out) hb); have n1_ := Aside0.mk (below_step (by repeat (first | (with_reducible first | exact HB.out | apply below_alloc | apply pw_below_drewN | apply below_drew1) | exact HB.out)) hb); clear HO518; clear HB; have HO518 := n0_; have HB := n1_; clear n0_ n1_; (try clear hb); (try clear hb2); (try clear hk); (try clear hi); (try simp only [errW_none, errW_some])))
      go_ret2
      exact ⟨by first | rfl | (simp [errW_none, errW_some] <;> rfl) | (simp [*, errW_none, errW_some] <;> rfl), by repeat (first | (with_reducible first | exact HB.out | apply below_alloc | apply pw_below_drewN | apply below_drew1) | exact HB.out)⟩
  · rw [if_neg c6] at H
    exact absurd H (by simp)
end Go.Proofs.YtkhgeonlohafgaaGreatDoor.Core
namespace Go.Proofs.YtkhgeonlohafgaaGreatDoor.Core
open Go.RowKit Go.Proofs.YtkhgeonlohafgaaGreatDoorW.PrintWords Go.Proofs.YtkhgeonlohafgaaGreatDoorW.PrintLast Go.Proofs.YtkhgeonlohafgaaGreatDoorW.PrintMore
attribute [local go_sem] max2_int min2_int max_two min_two max_three min_three max_four min_four   -- for this text's walks alone
set_option linter.unusedVariables false
set_option linter.unusedSimpArgs false
mutual
def gronx_SegmentChecker_isOffsetDue.j0 : Nat → ByteArray → Int → Int → Bool → Option (Bool × Option Int)
  | 0, _, _, _, _ => none
  | k + 1, x1, x2, x3, x19 => if x19 = true then (some (true, none)) else ((gronx_boundsByPos.f k x3).bind fun t535 => ((gronx_zzContains.f k x1 (⟨#[47]⟩ : ByteArray)).bind fun t538 => (if t538 = true then ((gronx_inStep.f k x2 x1 t535 (x3 == 5)).bind fun bt539 => (some (bt539.1, bt539.2))) else ((gronx_zzContains.f k x1 (⟨#[45]⟩ : ByteArray)).bind fun t541 => (if t541 = true then ((gronx_inRange.f k x2 x1 t535 (x3 == 5)).bind fun bt542 => (some (bt542.1, bt542.2))) else ((strconv_Atoi.f x1).bind fun bt544 => (if bt544.2.isNone = true then (if 0 < (t535.length : Int) then (if bt544.1 < (rd t535 0) then (gronx_SegmentChecker_isOffsetDue.j1 k x2 (x3 == 5) bt544.1 true) else (if 1 < (t535.length : Int) then (gronx_SegmentChecker_isOffsetDue.j1 k x2 (x3 == 5) bt544.1 (decide (bt544.1 > (rd t535 1)))) else (none))) else (none)) else (some (false, some (bt544.2.getD 0))))))))))
def gronx_SegmentChecker_isOffsetDue.j1 : Nat → Int → Bool → Int → Bool → Option (Bool × Option Int)
  | 0, _, _, _, _ => none
  | k + 1, x2, x11, x12, x61 => if x61 = true then ((errors_New.f (⟨#[115, 101, 103, 109, 101, 110, 116, 35, 58, 32, 111, 117, 116, 32, 111, 102, 32, 98, 111, 117, 110, 100, 115, 40, 44, 32, 41]⟩ : ByteArray)).bind fun t549 => (some (false, t549))) else (if x11 = true then (if x12 = x2 then (some (true, none)) else (if x12 = 7 then (some ((x2 == 0), none)) else (some (false, none)))) else (if x2 = 0 then (if x12 = 0 then (some ((x2 == 0), none)) else (some (false, none))) else (if x12 = 0 then (some ((x2 == 0), none)) else (if x12 = x2 then (some (true, none)) else (some (false, none))))))
end
def gronx_SegmentChecker_isOffsetDue.f (k : Nat) (a0 : Option Addr) (a1 : ByteArray) (a2 : Int) (a3 : Int) : Option (Bool × Option Int) := if a1.toList = ([42] : List UInt8) then (gronx_SegmentChecker_isOffsetDue.j0 k a1 a2 a3 true) else (gronx_SegmentChecker_isOffsetDue.j0 k a1 a2 a3 (a1.toList == ([63] : List UInt8)))
set_option maxHeartbeats 8000000 in
set_option maxRecDepth 100000 in
theorem gronx_SegmentChecker_isOffsetDue.calls (k : Nat) (a0 : Option Addr) (a1 : ByteArray) (a2 : Int) (a3 : Int) (r1 : Bool) (r2 : Option Int) (w : World) (h : gronx_SegmentChecker_isOffsetDue.f k a0 a1 a2 a3 = some (r1, r2)) :
    Calls Tryz.prog 60 #[.pointer a0, .string a1, .int .i64 a2, .int .i64 a3] w fun e w' => e = .returned (.tuple #[.bool r1, errW r2]) ∧ Below w.heap.size w w' := by
  have hu71 := Tryz.underlying71
  have HB := Aside0.mk (Below.refl w.heap.size w)
  have H : (if a1.toList = ([42] : List UInt8) then (gronx_SegmentChecker_isOffsetDue.j0 k a1 a2 a3 true) else (gronx_SegmentChecker_isOffsetDue.j0 k a1 a2 a3 (a1.toList == ([63] : List UInt8)))) = some (r1, r2) := h
  clear h
  have HC5 := Aside0.mk H
  clear H
  go_enter Tryz.func60, Tryz.ntmps60
  go_upto_region 1 with (fail)
  go_cut [19] (fun v19 wc => ∃ (kq : Nat) (x19_4 : Bool), v19 = .bool x19_4 ∧ Aside0 (gronx_SegmentChecker_isOffsetDue.j0 kq a1 a2 a3 x19_4 = some (r1, r2)) ∧ Aside0 (kq ≤ k) ∧ Aside0 (Below w.heap.size w wc))
  case first =>
    have H := HC5.out
    clear HC5
    by_cases c6 : a1.toList = ([42] : List UInt8)
    · rw [if_pos c6] at H
      have c6b0 : (a1.toList == ([42] : List UInt8)) = true := beq_iff_eq.mpr c6
      have c6b1 : (a1.toList != ([42] : List UInt8)) = false := bne_eq_false_iff_eq.mpr c6
      clear c6
      (first | rw [c6b0] | (simp only [i64_w, i32_w]; rw [c6b0]) | skip)
      have H' := Aside0.mk H
      clear H
      go_wp2
      go_meet
      case rel => exact ⟨_, (true), (by first | rfl | (simp; done) | (simp [*]; done)), H', ⟨by first | omega | exact Nat.le_refl _⟩, ⟨by repeat (first | (with_reducible first | exact HB.out | apply below_alloc | apply pw_below_drewN | apply below_drew1) | exact HB.out)⟩⟩
    · rw [if_neg c6] at H
      have c6b0 : (a1.toList == ([42] : List UInt8)) = false := beq_eq_false_iff_ne.mpr c6
      have c6b1 : (a1.toList != ([42] : List UInt8)) = true := bne_iff_ne.mpr c6
      (first | rw [c6b0] | (simp only [i64_w, i32_w]; rw [c6b0]) | skip)
      have H' := Aside0.mk H
      clear H
      go_wp2
      go_meet
      case rel => exact ⟨_, ((a1.toList == ([63] : List UInt8))), (by first | rfl | (simp; done) | (simp [*]; done)), H', ⟨by first | omega | exact Nat.le_refl _⟩, ⟨by repeat (first | (with_reducible first | exact HB.out | apply below_alloc | apply pw_below_drewN | apply below_drew1) | exact HB.out)⟩⟩
  case rest =>
    clear HC5
    try clear p2
    try clear c6
    try clear c6b0
    try clear c6b1
    obtain ⟨kq, x19_4, rfl, HA, HJ4, HB⟩ := hcut
    cases kq with
    | zero => exact absurd HA.out (by simp [gronx_SegmentChecker_isOffsetDue.j0])
    | succ kj4 =>
      have H := HA.out
      clear HA
      simp only [gronx_SegmentChecker_isOffsetDue.j0] at H
      by_cases c7 : x19_4 = true
      · subst c7
        have H1 : (some (true, none)) = some (r1, r2) := by rw [if_pos rfl] at H; exact H
        clear H
        have H := H1
        clear H1
        simp only [Option.some.injEq, Prod.mk.injEq] at H
        obtain ⟨rfl, rfl⟩ := H
        go_wp2
        go_ret2
        exact ⟨by first | rfl | (simp [errW_none, errW_some] <;> rfl) | (simp [*, errW_none, errW_some] <;> rfl), by repeat (first | (with_reducible first | exact HB.out | apply below_alloc | apply pw_below_drewN | apply below_drew1) | exact HB.out)⟩
      · replace c7 := Bool.eq_false_iff.mpr c7
        subst c7
        have H1 : ((gronx_boundsByPos.f kj4 a3).bind fun t535 => ((gronx_zzContains.f kj4 a1 (⟨#[47]⟩ : ByteArray)).bind fun t538 => (if t538 = true then ((gronx_inStep.f kj4 a2 a1 t535 (a3 == 5)).bind fun bt539 => (some (bt539.1, bt539.2))) else ((gronx_zzContains.f kj4 a1 (⟨#[45]⟩ : ByteArray)).bind fun t541 => (if t541 = true then ((gronx_inRange.f kj4 a2 a1 t535 (a3 == 5)).bind fun bt542 => (some (bt542.1, bt542.2))) else ((strconv_Atoi.f a1).bind fun bt544 => (if bt544.2.isNone = true then (if 0 < (t535.length : Int) then (if bt544.1 < (rd t535 0) then (gronx_SegmentChecker_isOffsetDue.j1 kj4 a2 (a3 == 5) bt544.1 true) else (if 1 < (t535.length : Int) then (gronx_SegmentChecker_isOffsetDue.j1 kj4 a2 (a3 == 5) bt544.1 (decide (bt544.1 > (rd t535 1)))) else (none))) else (none)) else (some (false, some (bt544.2.getD 0)))))))))) = some (r1, r2) := by rw [if_neg (show ¬ (false = true) by decide)] at H; exact H
        clear H
        have H := H1
        clear H1
        replace H := Option.bind_eq_some_iff.mp H
        obtain ⟨t535, A80, H⟩ := H
        replace H : ((gronx_zzContains.f kj4 a1 (⟨#[47]⟩ : ByteArray)).bind fun t538 => (if t538 = true then ((gronx_inStep.f kj4 a2 a1 t535 (a3 == 5)).bind fun bt539 => (some (bt539.1, bt539.2))) else ((gronx_zzContains.f kj4 a1 (⟨#[45]⟩ : ByteArray)).bind fun t541 => (if t541 = true then ((gronx_inRange.f kj4 a2 a1 t535 (a3 == 5)).bind fun bt542 => (some (bt542.1, bt542.2))) else ((strconv_Atoi.f a1).bind fun bt544 => (if bt544.2.isNone = true then (if 0 < (t535.length : Int) then (if bt544.1 < (rd t535 0) then (gronx_SegmentChecker_isOffsetDue.j1 kj4 a2 (a3 == 5) bt544.1 true) else (if 1 < (t535.length : Int) then (gronx_SegmentChecker_isOffsetDue.j1 kj4 a2 (a3 == 5) bt544.1 (decide (bt544.1 > (rd t535 1)))) else (none))) else (none)) else (some (false, some (bt544.2.getD 0))))))))) = some (r1, r2) := H
        have A8 := Aside0.mk A80
        clear A80
        replace H := Option.bind_eq_some_iff.mp H
        obtain ⟨t538, A90, H⟩ := H
        replace H : (if t538 = true then ((gronx_inStep.f kj4 a2 a1 t535 (a3 == 5)).bind fun bt539 => (some (bt539.1, bt539.2))) else ((gronx_zzContains.f kj4 a1 (⟨#[45]⟩ : ByteArray)).bind fun t541 => (if t541 = true then ((gronx_inRange.f kj4 a2 a1 t535 (a3 == 5)).bind fun bt542 => (some (bt542.1, bt542.2))) else ((strconv_Atoi.f a1).bind fun bt544 => (if bt544.2.isNone = true then (if 0 < (t535.length : Int) then (if bt544.1 < (rd t535 0) then (gronx_SegmentChecker_isOffsetDue.j1 kj4 a2 (a3 == 5) bt544.1 true) else (if 1 < (t535.length : Int) then (gronx_SegmentChecker_isOffsetDue.j1 kj4 a2 (a3 == 5) bt544.1 (decide (bt544.1 > (rd t535 1)))) else (none))) else (none)) else (some (false, some (bt544.2.getD 0)))))))) = some (r1, r2) := H
        have A9 := Aside0.mk A90
        clear A90
        by_cases c10 : t538 = true
        · subst c10
          have H1 : ((gronx_inStep.f kj4 a2 a1 t535 (a3 == 5)).bind fun bt539 => (some (bt539.1, bt539.2))) = some (r1, r2) := by rw [if_pos rfl] at H; exact H
          clear H
          have H := H1
          clear H1
          replace H := Option.bind_eq_some_iff.mp H
          obtain ⟨⟨t539, t540⟩, A110, H⟩ := H
          replace H : (some (t539, t540)) = some (r1, r2) := H
          have A11 := Aside0.mk A110
          clear A110
          simp only [Option.some.injEq, Prod.mk.injEq] at H
          obtain ⟨rfl, rfl⟩ := H
          go_wp2_with (first | ((with_reducible refine gate_callee (f := 85) rfl ?_); refine goesL_ (some 21) rfl rfl Tryz.func85 (by kernel_rfl) rfl #[.int .i64 a3] rfl (by (try simp only [List.map_toArray, List.map_cons, List.map_nil]); first | done | rfl | (simp only [List.length_drop, List.length_take]; rfl)) ?_; (with_reducible refine (gronx_boundsByPos.calls kj4 a3 t535 _ A8.out).mono ?_); rintro e w12 ⟨v536, rfl, ho0, hb⟩; refine ⟨_, rfl, ?_⟩; have n0_ := Aside0.mk (Kd.R_lower ho0 (below_size (by repeat (first | (with_reducible first | exact HB.out | apply below_alloc | apply pw_below_drewN | apply below_drew1) | exact HB.out)))); have n1_ := Aside0.mk (below_step (by repeat (first | (with_reducible first | exact HB.out | apply below_alloc | apply pw_below_drewN | apply below_drew1) | exact HB.out)) hb); clear HB; have HO537 := n0_; have HB := n1_; clear n0_ n1_; (try clear hb); (try clear hb2); (try clear hk); (try clear hi); (try clear ho0)) | ((with_reducible refine gate_callee (f := 56) rfl ?_); refine goesL_ (some 25) rfl rfl Tryz.func56 (by kernel_rfl) rfl #[.string a1, .string (⟨#[47]⟩ : ByteArray)] rfl (by (try simp only [List.map_toArray, List.map_cons, List.map_nil]); first | done | rfl | (simp only [List.length_drop, List.length_take]; rfl)) ?_; (with_reducible refine (gronx_zzContains.calls kj4 a1 (⟨#[47]⟩ : ByteArray) true _ A9.out).mono ?_); rintro e w' ⟨rfl, ⟨nd, rfl⟩⟩; refine ⟨_, rfl, ?_⟩; obtain ⟨Ao13, co13, eo13⟩ := Kd.R_slice HO537.out; subst eo13) | ((with_reducible refine gate_callee (f := 86) rfl ?_); refine goesL_ (some 30) rfl rfl Tryz.func86 (by kernel_rfl) rfl #[.int .i64 a2, .string a1, .slice Ao13 t535.length co13, .bool (a3 == 5)] rfl (by (try simp only [List.map_toArray, List.map_cons, List.map_nil]); first | done | rfl | (simp only [List.length_drop, List.length_take]; rfl)) ?_; (with_reducible refine (gronx_inStep.calls kj4 a2 a1 _ _ t535 (a3 == 5) t539 t540 _ ?side1 ?side2 A11.out).mono ?_); (case side1 => repeat (first | exact (Kd.R_reads' HO537.out).2.2 | (with_reducible refine Kd.C_alloc ?_ _) | (with_reducible refine Kd.C_drewN ?_ _) | (with_reducible refine Kd.C_drew ?_))); (case side2 => exact (Kd.R_reads' HO537.out).2.1); rintro e w14 ⟨rfl, hb⟩; refine ⟨_, rfl, ?_⟩; have n0_ := Aside0.mk (Kd.R_below (by (with_reducible repeat (first | apply Kd.R_alloc | apply Kd.R_drewN | apply Kd.R_drew)); exact HO537.out) hb); have n1_ := Aside0.mk (below_step (by repeat (first | (with_reducible first | exact HB.out | apply below_alloc | apply pw_below_drewN | apply below_drew1) | exact HB.out)) hb); clear HO537; clear HB; have HO537 := n0_; have HB := n1_; clear n0_ n1_; (try clear hb); (try clear hb2); (try clear hk); (try clear hi); (try simp only [errW_none, errW_some])))
          go_ret2
          exact ⟨by first | rfl | (simp [errW_none, errW_some] <;> rfl) | (simp [*, errW_none, errW_some] <;> rfl), by repeat (first | (with_reducible first | exact HB.out | apply below_alloc | apply pw_below_drewN | apply below_drew1) | exact HB.out)⟩
        · replace c10 := Bool.eq_false_iff.mpr c10
          subst c10
          have H1 : ((gronx_zzContains.f kj4 a1 (⟨#[45]⟩ : ByteArray)).bind fun t541 => (if t541 = true then ((gronx_inRange.f kj4 a2 a1 t535 (a3 == 5)).bind fun bt542 => (some (bt542.1, bt542.2))) else ((strconv_Atoi.f a1).bind fun bt544 => (if bt544.2.isNone = true then (if 0 < (t535.length : Int) then (if bt544.1 < (rd t535 0) then (gronx_SegmentChecker_isOffsetDue.j1 kj4 a2 (a3 == 5) bt544.1 true) else (if 1 < (t535.length : Int) then (gronx_SegmentChecker_isOffsetDue.j1 kj4 a2 (a3 == 5) bt544.1 (decide (bt544.1 > (rd t535 1)))) else (none))) else (none)) else (some (false, some (bt544.2.getD 0))))))) = some (r1, r2) := by rw [if_neg (show ¬ (false = true) by decide)] at H; exact H
          clear H
          have H := H1
          clear H1
          replace H := Option.bind_eq_some_iff.mp H
          obtain ⟨t541, A150, H⟩ := H
          replace H : (if t541 = true then ((gronx_inRange.f kj4 a2 a1 t535 (a3 == 5)).bind fun bt542 => (some (bt542.1, bt542.2))) else ((strconv_Atoi.f a1).bind fun bt544 => (if bt544.2.isNone = true then (if 0 < (t535.length : Int) then (if bt544.1 < (rd t535 0) then (gronx_SegmentChecker_isOffsetDue.j1 kj4 a2 (a3 == 5) bt544.1 true) else (if 1 < (t535.length : Int) then (gronx_SegmentChecker_isOffsetDue.j1 kj4 a2 (a3 == 5) bt544.1 (decide (bt544.1 > (rd t535 1)))) else (none))) else (none)) else (some (false, some (bt544.2.getD 0)))))) = some (r1, r2) := H
          have A15 := Aside0.mk A150
          clear A150
          by_cases c16 : t541 = true
          · subst c16
            have H1 : ((gronx_inRange.f kj4 a2 a1 t535 (a3 == 5)).bind fun bt542 => (some (bt542.1, bt542.2))) = some (r1, r2) := by rw [if_pos rfl] at H; exact H
            clear H
            have H := H1
            clear H1
            replace H := Option.bind_eq_some_iff.mp H
            obtain ⟨⟨t542, t543⟩, A170, H⟩ := H
            replace H : (some (t542, t543)) = some (r1, r2) := H
            have A17 := Aside0.mk A170
            clear A170
            simp only [Option.some.injEq, Prod.mk.injEq] at H
            obtain ⟨rfl, rfl⟩ := H
            go_wp2_with (first | ((with_reducible refine gate_callee (f := 85) rfl ?_); refine goesL_ (some 21) rfl rfl Tryz.func85 (by kernel_rfl) rfl #[.int .i64 a3] rfl (by (try simp only [List.map_toArray, List.map_cons, List.map_nil]); first | done | rfl | (simp only [List.length_drop, List.length_take]; rfl)) ?_; (with_reducible refine (gronx_boundsByPos.calls kj4 a3 t535 _ A8.out).mono ?_); rintro e w18 ⟨v536, rfl, ho0, hb⟩; refine ⟨_, rfl, ?_⟩; have n0_ := Aside0.mk (Kd.R_lower ho0 (below_size (by repeat (first | (with_reducible first | exact HB.out | apply below_alloc | apply pw_below_drewN | apply below_drew1) | exact HB.out)))); have n1_ := Aside0.mk (below_step (by repeat (first | (with_reducible first | exact HB.out | apply below_alloc | apply pw_below_drewN | apply below_drew1) | exact HB.out)) hb); clear HB; have HO537 := n0_; have HB := n1_; clear n0_ n1_; (try clear hb); (try clear hb2); (try clear hk); (try clear hi); (try clear ho0)) | ((with_reducible refine gate_callee (f := 56) rfl ?_); refine goesL_ (some 25) rfl rfl Tryz.func56 (by kernel_rfl) rfl #[.string a1, .string (⟨#[47]⟩ : ByteArray)] rfl (by (try simp only [List.map_toArray, List.map_cons, List.map_nil]); first | done | rfl | (simp only [List.length_drop, List.length_take]; rfl)) ?_; (with_reducible refine (gronx_zzContains.calls kj4 a1 (⟨#[47]⟩ : ByteArray) false _ A9.out).mono ?_); rintro e w' ⟨rfl, ⟨nd, rfl⟩⟩; refine ⟨_, rfl, ?_⟩) | ((with_reducible refine gate_callee (f := 56) rfl ?_); refine goesL_ (some 34) rfl rfl Tryz.func56 (by kernel_rfl) rfl #[.string a1, .string (⟨#[45]⟩ : ByteArray)] rfl (by (try simp only [List.map_toArray, List.map_cons, List.map_nil]); first | done | rfl | (simp only [List.length_drop, List.length_take]; rfl)) ?_; (with_reducible refine (gronx_zzContains.calls kj4 a1 (⟨#[45]⟩ : ByteArray) true _ A15.out).mono ?_); rintro e w' ⟨rfl, ⟨nd, rfl⟩⟩; refine ⟨_, rfl, ?_⟩; obtain ⟨Ao19, co19, eo19⟩ := Kd.R_slice HO537.out; subst eo19) | ((with_reducible refine gate_callee (f := 87) rfl ?_); refine goesL_ (some 39) rfl rfl Tryz.func87 (by kernel_rfl) rfl #[.int .i64 a2, .string a1, .slice Ao19 t535.length co19, .bool (a3 == 5)] rfl (by (try simp only [List.map_toArray, List.map_cons, List.map_nil]); first | done | rfl | (simp only [List.length_drop, List.length_take]; rfl)) ?_; (with_reducible refine (gronx_inRange.calls kj4 a2 a1 _ _ t535 (a3 == 5) t542 t543 _ ?side1 ?side2 A17.out).mono ?_); (case side1 => repeat (first | exact (Kd.R_reads' HO537.out).2.2 | (with_reducible refine Kd.C_alloc ?_ _) | (with_reducible refine Kd.C_drewN ?_ _) | (with_reducible refine Kd.C_drew ?_))); (case side2 => exact (Kd.R_reads' HO537.out).2.1); rintro e w20 ⟨rfl, hb⟩; refine ⟨_, rfl, ?_⟩; have n0_ := Aside0.mk (Kd.R_below (by (with_reducible repeat (first | apply Kd.R_alloc | apply Kd.R_drewN | apply Kd.R_drew)); exact HO537.out) hb); have n1_ := Aside0.mk (below_step (by repeat (first | (with_reducible first | exact HB.out | apply below_alloc | apply pw_below_drewN | apply below_drew1) | exact HB.out)) hb); clear HO537; clear HB; have HO537 := n0_; have HB := n1_; clear n0_ n1_; (try clear hb); (try clear hb2); (try clear hk); (try clear hi); (try simp only [errW_none, errW_some])))
            go_ret2
            exact ⟨by first | rfl | (simp [errW_none, errW_some] <;> rfl) | (simp [*, errW_none, errW_some] <;> rfl), by repeat (first | (with_reducible first | exact HB.out | apply below_alloc | apply pw_below_drewN | apply below_drew1) | exact HB.out)⟩
          · replace c16 := Bool.eq_false_iff.mpr c16
            subst c16
            have H1 : ((strconv_Atoi.f a1).bind fun bt544 => (if bt544.2.isNone = true then (if 0 < (t535.length : Int) then (if bt544.1 < (rd t535 0) then (gronx_SegmentChecker_isOffsetDue.j1 kj4 a2 (a3 == 5) bt544.1 true) else (if 1 < (t535.length : Int) then (gronx_SegmentChecker_isOffsetDue.j1 kj4 a2 (a3 == 5) bt544.1 (decide (bt544.1 > (rd t535 1)))) else (none))) else (none)) else (some (false, some (bt544.2.getD 0))))) = some (r1, r2) := by rw [if_neg (show ¬ (false = true) by decide)] at H; exact H
            clear H
            have H := H1
            clear H1
            replace H := Option.bind_eq_some_iff.mp H
            obtain ⟨⟨t544, t545⟩, A210, H⟩ := H
            replace H : (if t545.isNone = true then (if 0 < (t535.length : Int) then (if t544 < (rd t535 0) then (gronx_SegmentChecker_isOffsetDue.j1 kj4 a2 (a3 == 5) t544 true) else (if 1 < (t535.length : Int) then (gronx_SegmentChecker_isOffsetDue.j1 kj4 a2 (a3 == 5) t544 (decide (t544 > (rd t535 1)))) else (none))) else (none)) else (some (false, some (t545.getD 0)))) = some (r1, r2) := H
            have A21 := Aside0.mk A210
            clear A210
            rcases t545 with _ | q546
            · have H1 : (if 0 < (t535.length : Int) then (if t544 < (rd t535 0) then (gronx_SegmentChecker_isOffsetDue.j1 kj4 a2 (a3 == 5) t544 true) else (if 1 < (t535.length : Int) then (gronx_SegmentChecker_isOffsetDue.j1 kj4 a2 (a3 == 5) t544 (decide (t544 > (rd t535 1)))) else (none))) else (none)) = some (r1, r2) := by rw [if_pos (show (none : Option Int).isNone = true by rfl)] at H; exact H
              clear H
              have H := H1
              clear H1
              try simp only [errW_none, errW_some]
              have HC22 := Aside0.mk H
              clear H
              go_upto_region 11 with (first | ((with_reducible refine gate_callee (f := 85) rfl ?_); refine goesL_ (some 21) rfl rfl Tryz.func85 (by kernel_rfl) rfl #[.int .i64 a3] rfl (by (try simp only [List.map_toArray, List.map_cons, List.map_nil]); first | done | rfl | (simp only [List.length_drop, List.length_take]; rfl)) ?_; (with_reducible refine (gronx_boundsByPos.calls kj4 a3 t535 _ A8.out).mono ?_); rintro e w23 ⟨v536, rfl, ho0, hb⟩; refine ⟨_, rfl, ?_⟩; have n0_ := Aside0.mk (Kd.R_lower ho0 (below_size (by repeat (first | (with_reducible first | exact HB.out | apply below_alloc | apply pw_below_drewN | apply below_drew1) | exact HB.out)))); have n1_ := Aside0.mk (below_step (by repeat (first | (with_reducible first | exact HB.out | apply below_alloc | apply pw_below_drewN | apply below_drew1) | exact HB.out)) hb); clear HB; have HO537 := n0_; have HB := n1_; clear n0_ n1_; (try clear hb); (try clear hb2); (try clear hk); (try clear hi); (try clear ho0)) | ((with_reducible refine gate_callee (f := 56) rfl ?_); refine goesL_ (some 25) rfl rfl Tryz.func56 (by kernel_rfl) rfl #[.string a1, .string (⟨#[47]⟩ : ByteArray)] rfl (by (try simp only [List.map_toArray, List.map_cons, List.map_nil]); first | done | rfl | (simp only [List.length_drop, List.length_take]; rfl)) ?_; (with_reducible refine (gronx_zzContains.calls kj4 a1 (⟨#[47]⟩ : ByteArray) false _ A9.out).mono ?_); rintro e w' ⟨rfl, ⟨nd, rfl⟩⟩; refine ⟨_, rfl, ?_⟩) | ((with_reducible refine gate_callee (f := 56) rfl ?_); refine goesL_ (some 34) rfl rfl Tryz.func56 (by kernel_rfl) rfl #[.string a1, .string (⟨#[45]⟩ : ByteArray)] rfl (by (try simp only [List.map_toArray, List.map_cons, List.map_nil]); first | done | rfl | (simp only [List.length_drop, List.length_take]; rfl)) ?_; (with_reducible refine (gronx_zzContains.calls kj4 a1 (⟨#[45]⟩ : ByteArray) false _ A15.out).mono ?_); rintro e w' ⟨rfl, ⟨nd, rfl⟩⟩; refine ⟨_, rfl, ?_⟩) | ((with_reducible refine gate_callee (f := 88) rfl ?_); refine goesL_ (some 44) rfl rfl Tryz.func88 (by kernel_rfl) rfl #[.string a1] rfl (by (try simp only [List.map_toArray, List.map_cons, List.map_nil]); first | done | rfl | (simp only [List.length_drop, List.length_take]; rfl)) ?_; (with_reducible refine (strconv_Atoi.calls a1 t544 none _ A21.out).mono ?_); rintro e w24 ⟨rfl, hb⟩; refine ⟨_, rfl, ?_⟩; have n0_ := Aside0.mk (Kd.R_below (by (with_reducible repeat (first | apply Kd.R_alloc | apply Kd.R_drewN | apply Kd.R_drew)); exact HO537.out) hb); have n1_ := Aside0.mk (below_step (by repeat (first | (with_reducible first | exact HB.out | apply below_alloc | apply pw_below_drewN | apply below_drew1) | exact HB.out)) hb); clear HO537; clear HB; have HO537 := n0_; have HB := n1_; clear n0_ n1_; (try clear hb); (try clear hb2); (try clear hk); (try clear hi); (try simp only [errW_none, errW_some])))
              (try simp only [Act.put, List.setIfInBounds_toArray, List.set_cons_zero, List.set_cons_succ])
              go_cut [61] (fun v61 wc => ∃ (kq : Nat) (x61_21 : Bool), v61 = .bool x61_21 ∧ Aside0 (gronx_SegmentChecker_isOffsetDue.j1 kq a2 (a3 == 5) t544 x61_21 = some (r1, r2)) ∧ Aside0 (kq ≤ kj4) ∧ Aside0 (Below w.heap.size w wc))
              case first =>
                have H := HC22.out
                clear HC22
                by_cases c25 : 0 < (t535.length : Int)
                · rw [if_pos c25] at H
                  have c25b0 : decide (0 < (t535.length : Int)) = true := decide_eq_true c25
                  have c25b1 : decide (0 < t535.length) = true := decide_eq_true (by omega)
                  clear c25
                  (first | rw [c25b0] | (simp only [i64_w, i32_w]; rw [c25b0]) | skip)
                  by_cases c26 : t544 < (rd t535 0)
                  · rw [if_pos c26] at H
                    have c26b0 : decide (t544 < (rd t535 0)) = true := decide_eq_true c26
                    clear c26
                    have H' := Aside0.mk H
                    clear H
                    obtain ⟨Ao27, co27, eo27⟩ := Kd.R_slice HO537.out
                    subst eo27
                    have p547 : 0 ≤ (0 : Int) := (by omega)
                    have q547 : 0 < (t535.length : Int) := of_decide_eq_true (by first | (with_reducible assumption) | assumption)
                    obtain ⟨ad547, e547, hx547_0⟩ := Kd.at_int (Kd.R_reads' HO537.out).2.2 0 p547 q547
                    cases e547
                    have qi547 : (0 < t535.length) = True := eq_true (by omega)
                    (try rw [show ((0 : Int)).toNat = 0 from rfl] at hx547_0)
                    (try rw [Addr.add_zero'] at hx547_0)
                    replace p547 := eq_true p547
                    replace q547 := eq_true q547
                    go_wp2
                    go_meet
                    case rel => exact ⟨_, (true), (by first | rfl | (simp; done) | (simp [*]; done)), H', ⟨by have := HJ4.out; first | omega | exact Nat.le_refl _⟩, ⟨by repeat (first | (with_reducible first | exact HB.out | apply below_alloc | apply pw_below_drewN | apply below_drew1) | exact HB.out)⟩⟩
                  · rw [if_neg c26] at H
                    have c26b0 : decide (t544 < (rd t535 0)) = false := decide_eq_false c26
                    clear c26
                    by_cases c28 : 1 < (t535.length : Int)
                    · rw [if_pos c28] at H
                      have c28b0 : decide (1 < (t535.length : Int)) = true := decide_eq_true c28
                      have c28b1 : decide (1 < t535.length) = true := decide_eq_true (by omega)
                      clear c28
                      have H' := Aside0.mk H
                      clear H
                      obtain ⟨Ao29, co29, eo29⟩ := Kd.R_slice HO537.out
                      subst eo29
                      have p547 : 0 ≤ (0 : Int) := (by omega)
                      have q547 : 0 < (t535.length : Int) := of_decide_eq_true (by first | (with_reducible assumption) | assumption)
                      obtain ⟨ad547, e547, hx547_0⟩ := Kd.at_int (Kd.R_reads' HO537.out).2.2 0 p547 q547
                      cases e547
                      have qi547 : (0 < t535.length) = True := eq_true (by omega)
                      (try rw [show ((0 : Int)).toNat = 0 from rfl] at hx547_0)
                      (try rw [Addr.add_zero'] at hx547_0)
                      replace p547 := eq_true p547
                      replace q547 := eq_true q547
                      have p548 : 0 ≤ (1 : Int) := (by omega)
                      have q548 : 1 < (t535.length : Int) := of_decide_eq_true (by first | (with_reducible assumption) | assumption)
                      obtain ⟨ad548, e548, hx548_0⟩ := Kd.at_int (Kd.R_reads' HO537.out).2.2 1 p548 q548
                      obtain rfl : ad547 = ad548 := (by injection e548)
                      (try simp only [show (1 : Int).toNat = 1 from rfl, Nat.reduceMul, Nat.reduceEqDiff, Go.Addr.add, ↓reduceIte] at hx548_0)
                      have qi548 : (1 < t535.length) = True := eq_true (by omega)
                      (try rw [show ((1 : Int)).toNat = 1 from rfl] at hx548_0)
                      replace p548 := eq_true p548
                      replace q548 := eq_true q548
                      go_wp2
                      go_meet
                      case rel => exact ⟨_, (decide (t544 > (rd t535 1))), (by first | rfl | (simp; done) | (simp [*]; done)), H', ⟨by have := HJ4.out; first | omega | exact Nat.le_refl _⟩, ⟨by repeat (first | (with_reducible first | exact HB.out | apply below_alloc | apply pw_below_drewN | apply below_drew1) | exact HB.out)⟩⟩
                    · rw [if_neg c28] at H
                      exact absurd H (by simp)
                · rw [if_neg c25] at H
                  exact absurd H (by simp)
              case rest =>
                clear HC22
                try clear c1
                try clear c2
                try clear p2
                try clear c5
                try clear p5
                try clear q5
                try clear hx5
                try clear qi5
                try clear c6
                try clear c6b0
                try clear c6b1
                try clear c7
                try clear c8
                try clear c10
                try clear c16
                try clear c25
                try clear c25b0
                try clear c25b1
                try clear c26
                try clear c26b0
                try clear c28
                try clear c28b0
                try clear c28b1
                try clear hx547_0
                try clear hx548_0
                try clear p2
                try clear p547
                try clear p548
                try clear q546
                try clear q547
                try clear q548
                obtain ⟨kq, x61_21, rfl, HA, HJ21, HB⟩ := hcut
                cases kq with
                | zero => exact absurd HA.out (by simp [gronx_SegmentChecker_isOffsetDue.j1])
                | succ kj21 =>
                  have H := HA.out
                  clear HA
                  simp only [gronx_SegmentChecker_isOffsetDue.j1] at H
                  by_cases c30 : x61_21 = true
                  · subst c30
                    have H1 : ((errors_New.f (⟨#[115, 101, 103, 109, 101, 110, 116, 35, 58, 32, 111, 117, 116, 32, 111, 102, 32, 98, 111, 117, 110, 100, 115, 40, 44, 32, 41]⟩ : ByteArray)).bind fun t549 => (some (false, t549))) = some (r1, r2) := by rw [if_pos rfl] at H; exact H
                    clear H
                    have H := H1
                    clear H1
                    replace H := Option.bind_eq_some_iff.mp H
                    obtain ⟨t549, A310, H⟩ := H
                    replace H : (some (false, t549)) = some (r1, r2) := H
                    have A31 := Aside0.mk A310
                    clear A310
                    simp only [Option.some.injEq, Prod.mk.injEq] at H
                    obtain ⟨rfl, rfl⟩ := H
                    go_wp2_with (first | ((with_reducible refine gate_callee (f := 51) rfl ?_); refine goesL_ (some 62) rfl rfl Tryz.func51 (by kernel_rfl) rfl #[.string (⟨#[115, 101, 103, 109, 101, 110, 116, 35, 58, 32, 111, 117, 116, 32, 111, 102, 32, 98, 111, 117, 110, 100, 115, 40, 44, 32, 41]⟩ : ByteArray)] rfl (by (try simp only [List.map_toArray, List.map_cons, List.map_nil]); first | done | rfl | (simp only [List.length_drop, List.length_take]; rfl)) ?_; (with_reducible refine (errors_New.calls (⟨#[115, 101, 103, 109, 101, 110, 116, 35, 58, 32, 111, 117, 116, 32, 111, 102, 32, 98, 111, 117, 110, 100, 115, 40, 44, 32, 41]⟩ : ByteArray) t549 _ A31.out).mono ?_); rintro e w32 ⟨rfl, hb⟩; refine ⟨_, rfl, ?_⟩; have n0_ := Aside0.mk (below_step (by repeat (first | (with_reducible first | exact HB.out | apply below_alloc | apply pw_below_drewN | apply below_drew1) | exact HB.out)) hb); clear HB; have HB := n0_; clear n0_; (try clear hb); (try clear hb2); (try clear hk); (try clear hi); (try simp only [errW_none, errW_some])))
                    go_ret2
                    exact ⟨by first | rfl | (simp [errW_none, errW_some] <;> rfl) | (simp [*, errW_none, errW_some] <;> rfl), by repeat (first | (with_reducible first | exact HB.out | apply below_alloc | apply pw_below_drewN | apply below_drew1) | exact HB.out)⟩
                  · replace c30 := Bool.eq_false_iff.mpr c30
                    subst c30
                    have H1 : (if (a3 == 5) = true then (if t544 = a2 then (some (true, none)) else (if t544 = 7 then (some ((a2 == 0), none)) else (some (false, none)))) else (if a2 = 0 then (if t544 = 0 then (some ((a2 == 0), none)) else (some (false, none))) else (if t544 = 0 then (some ((a2 == 0), none)) else (if t544 = a2 then (some (true, none)) else (some (false, none)))))) = some (r1, r2) := by rw [if_neg (show ¬ (false = true) by decide)] at H; exact H
                    clear H
                    have H := H1
                    clear H1
                    by_cases c33 : (a3 == 5) = true
                    · rw [if_pos c33] at H
                      have c33b0 : (a3 == 5) = true := c33
                      (try (have c33b1 : decide (a3 = 5) = true := by simpa using c33))
                      (try (have c33b2 : (a3 == 5) = true := by simpa using c33))
                      clear c33
                      by_cases c34 : t544 = a2
                      · rw [if_pos c34] at H
                        have c34b0 : (t544 == a2) = true := beq_iff_eq.mpr c34
                        have c34b1 : (t544 != a2) = false := bne_eq_false_iff_eq.mpr c34
                        clear c34
                        simp only [Option.some.injEq, Prod.mk.injEq] at H
                        obtain ⟨rfl, rfl⟩ := H
                        go_wp2
                        go_ret2
                        exact ⟨by first | rfl | (simp [errW_none, errW_some] <;> rfl) | (simp [*, errW_none, errW_some] <;> rfl), by repeat (first | (with_reducible first | exact HB.out | apply below_alloc | apply pw_below_drewN | apply below_drew1) | exact HB.out)⟩
                      · rw [if_neg c34] at H
                        have c34b0 : (t544 == a2) = false := beq_eq_false_iff_ne.mpr c34
                        have c34b1 : (t544 != a2) = true := bne_iff_ne.mpr c34
                        by_cases c35 : t544 = 7
                        · rw [if_pos c35] at H
                          have c35b0 : (t544 == 7) = true := beq_iff_eq.mpr c35
                          have c35b1 : (t544 != 7) = false := bne_eq_false_iff_eq.mpr c35
                          clear c35
                          simp only [Option.some.injEq, Prod.mk.injEq] at H
                          obtain ⟨rfl, rfl⟩ := H
                          go_wp2
                          go_ret2
                          exact ⟨by first | rfl | (simp [errW_none, errW_some] <;> rfl) | (simp [*, errW_none, errW_some] <;> rfl), by repeat (first | (with_reducible first | exact HB.out | apply below_alloc | apply pw_below_drewN | apply below_drew1) | exact HB.out)⟩
                        · rw [if_neg c35] at H
                          have c35b0 : (t544 == 7) = false := beq_eq_false_iff_ne.mpr c35
                          have c35b1 : (t544 != 7) = true := bne_iff_ne.mpr c35
                          simp only [Option.some.injEq, Prod.mk.injEq] at H
                          obtain ⟨rfl, rfl⟩ := H
                          go_wp2
                          go_ret2
                          exact ⟨by first | rfl | (simp [errW_none, errW_some] <;> rfl) | (simp [*, errW_none, errW_some] <;> rfl), by repeat (first | (with_reducible first | exact HB.out | apply below_alloc | apply pw_below_drewN | apply below_drew1) | exact HB.out)⟩
                    · rw [if_neg c33] at H
                      have c33b0 : (a3 == 5) = false := by simpa using c33
                      (try (have c33b1 : decide (a3 = 5) = false := by simpa using c33))
                      (try (have c33b2 : (a3 == 5) = false := by simpa using c33))
                      (try (have c33b3 : ¬ (a3 = 5) := by simpa using c33))
                      clear c33
                      by_cases c36 : a2 = 0
                      · rw [if_pos c36] at H
                        have c36b0 : (a2 == 0) = true := beq_iff_eq.mpr c36
                        have c36b1 : (a2 != 0) = false := bne_eq_false_iff_eq.mpr c36
                        clear c36
                        by_cases c37 : t544 = 0
                        · rw [if_pos c37] at H
                          have c37b0 : (t544 == 0) = true := beq_iff_eq.mpr c37
                          have c37b1 : (t544 != 0) = false := bne_eq_false_iff_eq.mpr c37
                          clear c37
                          simp only [Option.some.injEq, Prod.mk.injEq] at H
                          obtain ⟨rfl, rfl⟩ := H
                          go_wp2
                          go_ret2
                          exact ⟨by first | rfl | (simp [errW_none, errW_some] <;> rfl) | (simp [*, errW_none, errW_some] <;> rfl), by repeat (first | (with_reducible first | exact HB.out | apply below_alloc | apply pw_below_drewN | apply below_drew1) | exact HB.out)⟩
                        · rw [if_neg c37] at H
                          have c37b0 : (t544 == 0) = false := beq_eq_false_iff_ne.mpr c37
                          have c37b1 : (t544 != 0) = true := bne_iff_ne.mpr c37
                          simp only [Option.some.injEq, Prod.mk.injEq] at H
                          obtain ⟨rfl, rfl⟩ := H
                          go_wp2
                          go_ret2
                          exact ⟨by first | rfl | (simp [errW_none, errW_some] <;> rfl) | (simp [*, errW_none, errW_some] <;> rfl), by repeat (first | (with_reducible first | exact HB.out | apply below_alloc | apply pw_below_drewN | apply below_drew1) | exact HB.out)⟩
                      · rw [if_neg c36] at H
                        have c36b0 : (a2 == 0) = false := beq_eq_false_iff_ne.mpr c36
                        have c36b1 : (a2 != 0) = true := bne_iff_ne.mpr c36
                        by_cases c38 : t544 = 0
                        · rw [if_pos c38] at H
                          have c38b0 : (t544 == 0) = true := beq_iff_eq.mpr c38
                          have c38b1 : (t544 != 0) = false := bne_eq_false_iff_eq.mpr c38
                          clear c38
                          simp only [Option.some.injEq, Prod.mk.injEq] at H
                          obtain ⟨rfl, rfl⟩ := H
                          go_wp2
                          go_ret2
                          exact ⟨by first | rfl | (simp [errW_none, errW_some] <;> rfl) | (simp [*, errW_none, errW_some] <;> rfl), by repeat (first | (with_reducible first | exact HB.out | apply below_alloc | apply pw_below_drewN | apply below_drew1) | exact HB.out)⟩
                        · rw [if_neg c38] at H
                          have c38b0 : (t544 == 0) = false := beq_eq_false_iff_ne.mpr c38
                          have c38b1 : (t544 != 0) = true := bne_iff_ne.mpr c38
                          by_cases c39 : t544 = a2
                          · rw [if_pos c39] at H
                            have c39b0 : (t544 == a2) = true := beq_iff_eq.mpr c39
                            have c39b1 : (t544 != a2) = false := bne_eq_false_iff_eq.mpr c39
                            clear c39
                            simp only [Option.some.injEq, Prod.mk.injEq] at H
                            obtain ⟨rfl, rfl⟩ := H
                            go_wp2
                            go_ret2
                            exact ⟨by first | rfl | (simp [errW_none, errW_some] <;> rfl) | (simp [*, errW_none, errW_some] <;> rfl), by repeat (first | (with_reducible first | exact HB.out | apply below_alloc | apply pw_below_drewN | apply below_drew1) | exact HB.out)⟩
                          · rw [if_neg c39] at H
                            have c39b0 : (t544 == a2) = false := beq_eq_false_iff_ne.mpr c39
                            have c39b1 : (t544 != a2) = true := bne_iff_ne.mpr c39
                            simp only [Option.some.injEq, Prod.mk.injEq] at H
                            obtain ⟨rfl, rfl⟩ := H
                            go_wp2
                            go_ret2
                            exact ⟨by first | rfl | (simp [errW_none, errW_some] <;> rfl) | (simp [*, errW_none, errW_some] <;> rfl), by repeat (first | (with_reducible first | exact HB.out | apply below_alloc | apply pw_below_drewN | apply below_drew1) | exact HB.out)⟩
            · have H1 : (some (false, some q546)) = some (r1, r2) := by rw [if_neg (show ¬ (some q546).isNone = true by simp)] at H; exact H
              clear H
              have H := H1
              clear H1
              try simp only [errW_none, errW_some]
              simp only [Option.some.injEq, Prod.mk.injEq] at H
              obtain ⟨rfl, rfl⟩ := H
              go_wp2_with (first | ((with_reducible refine gate_callee (f := 85) rfl ?_); refine goesL_ (some 21) rfl rfl Tryz.func85 (by kernel_rfl) rfl #[.int .i64 a3] rfl (by (try simp only [List.map_toArray, List.map_cons, List.map_nil]); first | done | rfl | (simp only [List.length_drop, List.length_take]; rfl)) ?_; (with_reducible refine (gronx_boundsByPos.calls kj4 a3 t535 _ A8.out).mono ?_); rintro e w40 ⟨v536, rfl, ho0, hb⟩; refine ⟨_, rfl, ?_⟩; have n0_ := Aside0.mk (Kd.R_lower ho0 (below_size (by repeat (first | (with_reducible first | exact HB.out | apply below_alloc | apply pw_below_drewN | apply below_drew1) | exact HB.out)))); have n1_ := Aside0.mk (below_step (by repeat (first | (with_reducible first | exact HB.out | apply below_alloc | apply pw_below_drewN | apply below_drew1) | exact HB.out)) hb); clear HB; have HO537 := n0_; have HB := n1_; clear n0_ n1_; (try clear hb); (try clear hb2); (try clear hk); (try clear hi); (try clear ho0)) | ((with_reducible refine gate_callee (f := 56) rfl ?_); refine goesL_ (some 25) rfl rfl Tryz.func56 (by kernel_rfl) rfl #[.string a1, .string (⟨#[47]⟩ : ByteArray)] rfl (by (try simp only [List.map_toArray, List.map_cons, List.map_nil]); first | done | rfl | (simp only [List.length_drop, List.length_take]; rfl)) ?_; (with_reducible refine (gronx_zzContains.calls kj4 a1 (⟨#[47]⟩ : ByteArray) false _ A9.out).mono ?_); rintro e w' ⟨rfl, ⟨nd, rfl⟩⟩; refine ⟨_, rfl, ?_⟩) | ((with_reducible refine gate_callee (f := 56) rfl ?_); refine goesL_ (some 34) rfl rfl Tryz.func56 (by kernel_rfl) rfl #[.string a1, .string (⟨#[45]⟩ : ByteArray)] rfl (by (try simp only [List.map_toArray, List.map_cons, List.map_nil]); first | done | rfl | (simp only [List.length_drop, List.length_take]; rfl)) ?_; (with_reducible refine (gronx_zzContains.calls kj4 a1 (⟨#[45]⟩ : ByteArray) false _ A15.out).mono ?_); rintro e w' ⟨rfl, ⟨nd, rfl⟩⟩; refine ⟨_, rfl, ?_⟩) | ((with_reducible refine gate_callee (f := 88) rfl ?_); refine goesL_ (some 44) rfl rfl Tryz.func88 (by kernel_rfl) rfl #[.string a1] rfl (by (try simp only [List.map_toArray, List.map_cons, List.map_nil]); first | done | rfl | (simp only [List.length_drop, List.length_take]; rfl)) ?_; (with_reducible refine (strconv_Atoi.calls a1 t544 (some q546) _ A21.out).mono ?_); rintro e w41 ⟨rfl, hb⟩; refine ⟨_, rfl, ?_⟩; have n0_ := Aside0.mk (Kd.R_below (by (with_reducible repeat (first | apply Kd.R_alloc | apply Kd.R_drewN | apply Kd.R_drew)); exact HO537.out) hb); have n1_ := Aside0.mk (below_step (by repeat (first | (with_reducible first | exact HB.out | apply below_alloc | apply pw_below_drewN | apply below_drew1) | exact HB.out)) hb); clear HO537; clear HB; have HO537 := n0_; have HB := n1_; clear n0_ n1_; (try clear hb); (try clear hb2); (try clear hk); (try clear hi); (try simp only [errW_none, errW_some])))
              go_ret2
              exact ⟨by first | rfl | (simp [errW_none, errW_some] <;> rfl) | (simp [*, errW_none, errW_some] <;> rfl), by repeat (first | (with_reducible first | exact HB.out | apply below_alloc | apply pw_below_drewN | apply below_drew1) | exact HB.out)⟩
end Go.Proofs.YtkhgeonlohafgaaGreatDoor.Core
namespace Go.Proofs.YtkhgeonlohafgaaGreatDoor.Core
open Go.RowKit Go.Proofs.YtkhgeonlohafgaaGreatDoorW.PrintWords Go.Proofs.YtkhgeonlohafgaaGreatDoorW.PrintLast Go.Proofs.YtkhgeonlohafgaaGreatDoorW.PrintMore
attribute [local go_sem] max2_int min2_int max_two min_two max_three min_three max_four min_four   -- for this text's walks alone
set_option linter.unusedVariables false
set_option linter.unusedSimpArgs false
def gronx_zzReplaceAll.l0 : Nat → ByteArray → ByteArray → ByteArray → List Int → Option (ByteArray)
  | 0, _, _, _, _ => none
  | k + 1, x0, x1, x2, x7 => (gronx_zzIndex.f k x0 x1).bind fun t218 => (if t218 < 0 then (if x7.length + x0.size < 140737488355328 then (some (strOfNums (x7 ++ bytesOf x0))) else (none)) else (if 0 ≤ t218 then (if t218 ≤ (x0.size : Int) then (if x7.length + (x0.extract 0 (t218 : Int).toNat).size < 140737488355328 then ((some (x7 ++ bytesOf (x0.extract 0 (t218 : Int).toNat) : List Int)).bind fun y222 => (if y222.length + x2.size < 140737488355328 then (if 0 ≤ (wrap64 (t218 + (x1.size : Int))) then (if (wrap64 (t218 + (x1.size : Int))) ≤ (x0.size : Int) then (gronx_zzReplaceAll.l0 k (x0.extract ((wrap64 (t218 + (x1.size : Int))) : Int).toNat x0.size) x1 x2 (y222 ++ bytesOf x2)) else (none)) else (none)) else (none))) else (none)) else (none)) else (none)))
def gronx_zzReplaceAll.f (k : Nat) (a0 : ByteArray) (a1 : ByteArray) (a2 : ByteArray) : Option (ByteArray) := gronx_zzReplaceAll.l0 k a0 a1 a2 ([] : List Int)
set_option maxHeartbeats 8000000 in
set_option maxRecDepth 100000 in
theorem gronx_zzReplaceAll.calls (k : Nat) (a0 : ByteArray) (a1 : ByteArray) (a2 : ByteArray) (r : ByteArray) (w : World) (h : gronx_zzReplaceAll.f k a0 a1 a2 = some r) :
    Calls Tryz.prog 79 #[.string a0, .string a1, .string a2] w fun e w' => e = .returned (.string r) ∧ Below w.heap.size w w' := by
  have HB := Aside0.mk (Below.refl w.heap.size w)
  have H : (gronx_zzReplaceAll.l0 k a0 a1 a2 ([] : List Int)) = some r := h
  clear h
  have H' := Aside0.mk H
  clear H
  go_enter Tryz.func79, Tryz.ntmps79
  go_wp2
  go_loopg [0, 7] k (fun kq v0 v7 w' => ∃ (x0_1 : ByteArray) (x7_1 : List Int), v0 = .string x0_1 ∧ Aside0 (gronx_zzReplaceAll.l0 kq x0_1 a1 a2 x7_1 = some r) ∧ Aside0 (kq ≤ k) ∧ Aside0 (Kd.R (Kd.int .u8) 5 w' w.heap.size (fun _ => True) v7 x7_1) ∧ Aside0 (Below w.heap.size w w'))
  case atStart => exact ⟨(a0), (([] : List Int)), (by first | rfl | (simp; done) | (simp [*]; done)), H', ⟨Nat.le_refl _⟩, ⟨by first | exact Kd.R_nil _ _ _ _ _ | exact Kd.N_nil _ _ _ _ _ | exact Kd.V_nil _ _ _ _ _ | exact Kd.Q_nil _ _ _ _ _ | exact Kd.S_nil _ _ _ _ _⟩, ⟨by repeat (first | (with_reducible first | exact HB.out | apply below_alloc | apply pw_below_drewN | apply below_drew1) | exact HB.out)⟩⟩
  case round =>
    clear H'
    try clear p2
    obtain ⟨x0_1, x7_1, rfl, HA, HK1, HO_7, HB⟩ := hrel
    cases gk with
    | zero => exact absurd HA.out (by simp [gronx_zzReplaceAll.l0])
    | succ k1 =>
      have H := HA.out
      clear HA
      simp only [gronx_zzReplaceAll.l0] at H
      replace H := Option.bind_eq_some_iff.mp H
      obtain ⟨t218, A40, H⟩ := H
      replace H : (if t218 < 0 then (if x7_1.length + x0_1.size < 140737488355328 then (some (strOfNums (x7_1 ++ bytesOf x0_1))) else (none)) else (if 0 ≤ t218 then (if t218 ≤ (x0_1.size : Int) then (if x7_1.length + (x0_1.extract 0 (t218 : Int).toNat).size < 140737488355328 then ((some (x7_1 ++ bytesOf (x0_1.extract 0 (t218 : Int).toNat) : List Int)).bind fun y222 => (if y222.length + a2.size < 140737488355328 then (if 0 ≤ (wrap64 (t218 + (a1.size : Int))) then (if (wrap64 (t218 + (a1.size : Int))) ≤ (x0_1.size : Int) then (gronx_zzReplaceAll.l0 k1 (x0_1.extract ((wrap64 (t218 + (a1.size : Int))) : Int).toNat x0_1.size) a1 a2 (y222 ++ bytesOf a2)) else (none)) else (none)) else (none))) else (none)) else (none)) else (none))) = some r := H
      have A4 := Aside0.mk A40
      clear A40
      by_cases c5 : t218 < 0
      · rw [if_pos c5] at H
        have c5b0 : decide (t218 < 0) = true := decide_eq_true c5
        clear c5
        by_cases c6 : x7_1.length + x0_1.size < 140737488355328
        · rw [if_pos c6] at H
          have LMc6 := Aside0.mk c6
          clear c6
          obtain ⟨y219, hy219⟩ : ∃ y_ : List Int, y_ = (x7_1 ++ bytesOf x0_1) := ⟨_, rfl⟩
          replace H : (some (strOfNums y219)) = some r := by first | (rw [hy219]; with_reducible exact H) | (have H2_ := (Option.bind_some _ _).symm.trans H; rw [hy219]; with_reducible exact H2_) | (have H2_ := (Option.bind_some _ _).symm.trans H; with_reducible exact H2_) | with_reducible exact H | (rw [hy219]; exact H) | exact H
          have Ny219 := Aside0.mk hy219
          clear hy219
          obtain rfl := Option.some.inj H
          go_wp2_with (first | ((with_reducible refine gate_callee (f := 80) rfl ?_); refine goesL_ (some 11) rfl rfl Tryz.func80 (by kernel_rfl) rfl #[.string x0_1, .string a1] rfl (by (try simp only [List.map_toArray, List.map_cons, List.map_nil]); first | done | rfl | (simp only [List.length_drop, List.length_take]; rfl)) ?_; (with_reducible refine (gronx_zzIndex.calls k1 x0_1 a1 t218 _ A4.out).mono ?_); rintro e w' ⟨rfl, ⟨nd, rfl⟩⟩; refine ⟨_, rfl, ?_⟩) | (at_builtin; refine print_append_str (w0 := w) w.heap.size rfl (.tmp 14) _ 78 9 5 rfl Tryz.underlying78 Tryz.underlying9 info5 u7 x7_1 x0_1 rfl rfl ?aO ?aB ?aS ?aL ?_; (case aB => exact (by repeat (first | (with_reducible first | exact HB.out | apply below_alloc | apply pw_below_drewN | apply below_drew1) | exact HB.out))); (case aO => exact (Kd.own_of_R (by (with_reducible repeat (first | apply Kd.R_alloc | apply Kd.R_drewN | apply Kd.R_drew)); exact HO_7.out))); (case aS => exact (below_size (by repeat (first | (with_reducible first | exact HB.out | apply below_alloc | apply pw_below_drewN | apply below_drew1) | exact HB.out)))); (case aL => have := LMc6.out; omega); intro v220 w7 ho0 hb hg; have ho := Kd.R_of_own (h1 := fun _ => rfl) (ok := fun _ => True) ho0 (fun _ _ => trivial); clear ho0; have hat := True.intro; rw [← Ny219.out] at ho; change Kd.R (Kd.int .u8) 5 w7 w.heap.size (fun _ => True) v220 y219 at ho; have n0_ := Aside0.mk (hb); have n1_ := Aside0.mk (ho); clear HB; clear HO_7; have HB := n0_; have HO221 := n1_; clear n0_ n1_; clear ho hb hg hat; have hcv8 := own_string (P := Tryz.prog) Tryz.underlying78 Tryz.underlying5 Tryz.underlying9 (Kd.own_of_R HO221.out)))
          go_ret
          exact ⟨by first | rfl | (simp [errW_none, errW_some] <;> rfl) | (simp [*, errW_none, errW_some] <;> rfl), by repeat (first | (with_reducible first | exact HB.out | apply below_alloc | apply pw_below_drewN | apply below_drew1) | exact HB.out)⟩
        · rw [if_neg c6] at H
          exact absurd H (by simp)
      · rw [if_neg c5] at H
        have c5b0 : decide (t218 < 0) = false := decide_eq_false c5
        clear c5
        by_cases c9 : 0 ≤ t218
        · rw [if_pos c9] at H
          have c9b0 := eq_true c9
          have c9b1 : decide (0 ≤ t218) = true := decide_eq_true c9
          clear c9
          by_cases c10 : t218 ≤ (x0_1.size : Int)
          · rw [if_pos c10] at H
            have c10b0 := eq_true c10
            have c10b1 : decide (t218 ≤ (x0_1.size : Int)) = true := decide_eq_true c10
            clear c10
            by_cases c11 : x7_1.length + (x0_1.extract 0 (t218 : Int).toNat).size < 140737488355328
            · rw [if_pos c11] at H
              have LMc11 := Aside0.mk c11
              clear c11
              obtain ⟨y222, hy222⟩ : ∃ y_ : List Int, y_ = (x7_1 ++ bytesOf (x0_1.extract 0 (t218 : Int).toNat)) := ⟨_, rfl⟩
              replace H : (if y222.length + a2.size < 140737488355328 then (if 0 ≤ (wrap64 (t218 + (a1.size : Int))) then (if (wrap64 (t218 + (a1.size : Int))) ≤ (x0_1.size : Int) then (gronx_zzReplaceAll.l0 k1 (x0_1.extract ((wrap64 (t218 + (a1.size : Int))) : Int).toNat x0_1.size) a1 a2 (y222 ++ bytesOf a2)) else (none)) else (none)) else (none)) = some r := by first | (rw [hy222]; with_reducible exact H) | (have H2_ := (Option.bind_some _ _).symm.trans H; rw [hy222]; with_reducible exact H2_) | (have H2_ := (Option.bind_some _ _).symm.trans H; with_reducible exact H2_) | with_reducible exact H | (rw [hy222]; exact H) | exact H
              have Ny222 := Aside0.mk hy222
              clear hy222
              by_cases c12 : y222.length + a2.size < 140737488355328
              · rw [if_pos c12] at H
                have LMc12 := Aside0.mk c12
                clear c12
                obtain ⟨y225, hy225⟩ : ∃ y_ : List Int, y_ = (y222 ++ bytesOf a2) := ⟨_, rfl⟩
                replace H : (if 0 ≤ (wrap64 (t218 + (a1.size : Int))) then (if (wrap64 (t218 + (a1.size : Int))) ≤ (x0_1.size : Int) then (gronx_zzReplaceAll.l0 k1 (x0_1.extract ((wrap64 (t218 + (a1.size : Int))) : Int).toNat x0_1.size) a1 a2 y225) else (none)) else (none)) = some r := by first | (rw [hy225]; with_reducible exact H) | (have H2_ := (Option.bind_some _ _).symm.trans H; rw [hy225]; with_reducible exact H2_) | (have H2_ := (Option.bind_some _ _).symm.trans H; with_reducible exact H2_) | with_reducible exact H | (rw [hy225]; exact H) | exact H
                have Ny225 := Aside0.mk hy225
                clear hy225
                obtain ⟨ji13, hji13⟩ : ∃ j_ : Int, (wrap64 (t218 + (a1.size : Int))) = j_ := ⟨_, rfl⟩
                replace H : (if 0 ≤ (ji13) then (if (ji13) ≤ (x0_1.size : Int) then (gronx_zzReplaceAll.l0 k1 (x0_1.extract ((ji13) : Int).toNat x0_1.size) a1 a2 y225) else (none)) else (none)) = some r := by first | (rw [hji13] at H; exact H) | (simp only [hji13] at H ⊢; exact H)
                (try rw [hji13] at A4)
                have hji13w : (IntKind.i64.wrap (t218 + (a1.size : Int))) = ji13 := (i64_w _).trans hji13
                by_cases c14 : 0 ≤ (ji13)
                · rw [if_pos c14] at H
                  have c14b0 := eq_true c14
                  have c14b1 : decide (0 ≤ (ji13)) = true := decide_eq_true c14
                  clear c14
                  by_cases c15 : (ji13) ≤ (x0_1.size : Int)
                  · rw [if_pos c15] at H
                    have c15b0 := eq_true c15
                    have c15b1 : decide ((ji13) ≤ (x0_1.size : Int)) = true := decide_eq_true c15
                    clear c15
                    have H' := Aside0.mk H
                    clear H
                    go_wp2_with (first | ((with_reducible refine gate_callee (f := 80) rfl ?_); refine goesL_ (some 11) rfl rfl Tryz.func80 (by kernel_rfl) rfl #[.string x0_1, .string a1] rfl (by (try simp only [List.map_toArray, List.map_cons, List.map_nil]); first | done | rfl | (simp only [List.length_drop, List.length_take]; rfl)) ?_; (with_reducible refine (gronx_zzIndex.calls k1 x0_1 a1 t218 _ A4.out).mono ?_); rintro e w' ⟨rfl, ⟨nd, rfl⟩⟩; refine ⟨_, rfl, ?_⟩) | (at_builtin; refine print_append_str (w0 := w) w.heap.size rfl (.tmp 18) _ 78 9 5 rfl Tryz.underlying78 Tryz.underlying9 info5 u7 x7_1 (x0_1.extract 0 (t218 : Int).toNat) rfl rfl ?aO ?aB ?aS ?aL ?_; (case aB => exact (by repeat (first | (with_reducible first | exact HB.out | apply below_alloc | apply pw_below_drewN | apply below_drew1) | exact HB.out))); (case aO => exact (Kd.own_of_R (by (with_reducible repeat (first | apply Kd.R_alloc | apply Kd.R_drewN | apply Kd.R_drew)); exact HO_7.out))); (case aS => exact (below_size (by repeat (first | (with_reducible first | exact HB.out | apply below_alloc | apply pw_below_drewN | apply below_drew1) | exact HB.out)))); (case aL => have := LMc11.out; omega); intro v223 w16 ho0 hb hg; have ho := Kd.R_of_own (h1 := fun _ => rfl) (ok := fun _ => True) ho0 (fun _ _ => trivial); clear ho0; have hat := True.intro; rw [← Ny222.out] at ho; change Kd.R (Kd.int .u8) 5 w16 w.heap.size (fun _ => True) v223 y222 at ho; have n0_ := Aside0.mk (hb); have n1_ := Aside0.mk (ho); clear HB; clear HO_7; have HB := n0_; have HO224 := n1_; clear n0_ n1_; clear ho hb hg hat) | (at_builtin; refine print_append_str (w0 := w) w.heap.size rfl (.tmp 22) _ 78 9 5 rfl Tryz.underlying78 Tryz.underlying9 info5 v223 y222 a2 rfl rfl ?aO ?aB ?aS ?aL ?_; (case aB => exact (by repeat (first | (with_reducible first | exact HB.out | apply below_alloc | apply pw_below_drewN | apply below_drew1) | exact HB.out))); (case aO => exact (Kd.own_of_R (by (with_reducible repeat (first | apply Kd.R_alloc | apply Kd.R_drewN | apply Kd.R_drew)); exact HO224.out))); (case aS => exact (below_size (by repeat (first | (with_reducible first | exact HB.out | apply below_alloc | apply pw_below_drewN | apply below_drew1) | exact HB.out)))); (case aL => have := LMc12.out; omega); intro v226 w17 ho0 hb hg; have ho := Kd.R_of_own (h1 := fun _ => rfl) (ok := fun _ => True) ho0 (fun _ _ => trivial); clear ho0; have hat := True.intro; rw [← Ny225.out] at ho; change Kd.R (Kd.int .u8) 5 w17 w.heap.size (fun _ => True) v226 y225 at ho; have n0_ := Aside0.mk (hb); have n1_ := Aside0.mk (ho); clear HB; clear HO224; have HB := n0_; have HO227 := n1_; clear n0_ n1_; clear ho hb hg hat))
                    go_roundg k1
                    case measure => have := HK1.out; omega
                    case rel => exact ⟨(x0_1.extract ((ji13) : Int).toNat x0_1.size), (y225), (by first | rfl | (simp; done) | (simp only [← hji13] <;> (first | rfl | simp)) | (simp [*]; done)), H', ⟨by have := HK1.out; omega⟩, ⟨by (with_reducible repeat (first | apply Kd.R_alloc | apply Kd.R_drewN | apply Kd.R_drew)); exact HO227.out⟩, ⟨by repeat (first | (with_reducible first | exact HB.out | apply below_alloc | apply pw_below_drewN | apply below_drew1) | exact HB.out)⟩⟩
                  · rw [if_neg c15] at H
                    exact absurd H (by simp)
                · rw [if_neg c14] at H
                  exact absurd H (by simp)
              · rw [if_neg c12] at H
                exact absurd H (by simp)
            · rw [if_neg c11] at H
              exact absurd H (by simp)
          · rw [if_neg c10] at H
            exact absurd H (by simp)
        · rw [if_neg c9] at H
          exact absurd H (by simp)
end Go.Proofs.YtkhgeonlohafgaaGreatDoor.Core
namespace Go.Proofs.YtkhgeonlohafgaaGreatDoor.Core
open Go.RowKit Go.Proofs.YtkhgeonlohafgaaGreatDoorW.PrintWords Go.Proofs.YtkhgeonlohafgaaGreatDoorW.PrintLast Go.Proofs.YtkhgeonlohafgaaGreatDoorW.PrintMore
attribute [local go_sem] max2_int min2_int max_two min_two max_three min_three max_four min_four   -- for this text's walks alone
set_option linter.unusedVariables false
set_option linter.unusedSimpArgs false
mutual
def gronx_zzTrim.j1 : Nat → ByteArray → Option (ByteArray)
  | 0, _ => none
  | k + 1, x0 => gronx_zzTrim.l1 k x0
def gronx_zzTrim.l1 : Nat → ByteArray → Option (ByteArray)
  | 0, _ => none
  | k + 1, x0 => if (x0.size : Int) > 0 then (if 0 ≤ (wrap64 ((x0.size : Int) - 1)) then (if (wrap64 ((x0.size : Int) - 1)) < (x0.size : Int) then (if (bt x0 (wrap64 ((x0.size : Int) - 1))) = 32 then (if (wrap64 ((x0.size : Int) - 1)) ≤ (x0.size : Int) then (gronx_zzTrim.l1 k (x0.extract 0 ((wrap64 ((x0.size : Int) - 1)) : Int).toNat)) else (none)) else (if (bt x0 (wrap64 ((x0.size : Int) - 1))) = 9 then (if (wrap64 ((x0.size : Int) - 1)) ≤ (x0.size : Int) then (gronx_zzTrim.l1 k (x0.extract 0 ((wrap64 ((x0.size : Int) - 1)) : Int).toNat)) else (none)) else (some x0))) else (none)) else (none)) else (some x0)
def gronx_zzTrim.l0 : Nat → ByteArray → Option (ByteArray)
  | 0, _ => none
  | k + 1, x0 => if (x0.size : Int) > 0 then (if 0 < (x0.size : Int) then (if (bt x0 0) = 32 then (if 1 ≤ (x0.size : Int) then (gronx_zzTrim.l0 k (x0.extract 1 x0.size)) else (none)) else (if (bt x0 0) = 9 then (if 1 ≤ (x0.size : Int) then (gronx_zzTrim.l0 k (x0.extract 1 x0.size)) else (none)) else (gronx_zzTrim.j1 k x0))) else (none)) else (gronx_zzTrim.j1 k x0)
end
def gronx_zzTrim.f (k : Nat) (a0 : ByteArray) : Option (ByteArray) := gronx_zzTrim.l0 k a0
set_option maxHeartbeats 8000000 in
set_option maxRecDepth 100000 in
theorem gronx_zzTrim.calls (k : Nat) (a0 : ByteArray) (r : ByteArray) (w : World) (h : gronx_zzTrim.f k a0 = some r) :
    Calls Tryz.prog 73 #[.string a0] w fun e w' => e = .returned (.string r) ∧ Drawn0 w w' := by
  have H : (gronx_zzTrim.l0 k a0) = some r := h
  clear h
  have HC2 := Aside0.mk H
  clear H
  go_enter Tryz.func73, Tryz.ntmps73
  go_upto_block 0 with (fail)
  go_cut [0] (fun v0 wc => ∃ (kq : Nat) (x0_1 : ByteArray), v0 = .string x0_1 ∧ Aside0 (gronx_zzTrim.j1 kq x0_1 = some r) ∧ Aside0 (kq ≤ k) ∧ Drawn0 w wc)
  case first =>
    have H := HC2.out
    clear HC2
    have H' := Aside0.mk H
    clear H
    go_wp2
    go_loopg [0] k (fun kq v0 w' => ∃ (x0_1 : ByteArray), v0 = .string x0_1 ∧ Aside0 (gronx_zzTrim.l0 kq x0_1 = some r) ∧ Aside0 (kq ≤ k) ∧ Drawn0 w w')
    case atStart => exact ⟨(a0), (by first | rfl | (simp; done) | (simp [*]; done)), H', ⟨Nat.le_refl _⟩, by repeat (first | exact Drawn0.refl _ | apply Drawn0.step)⟩
    case round =>
      clear H'
      try clear p2
      obtain ⟨x0_1, rfl, HA, HK1, ⟨m1, rfl⟩⟩ := hrel
      cases gk with
      | zero => exact absurd HA.out (by simp [gronx_zzTrim.l0])
      | succ k1 =>
        have H := HA.out
        clear HA
        simp only [gronx_zzTrim.l0] at H
        by_cases c3 : (x0_1.size : Int) > 0
        · rw [if_pos c3] at H
          have c3b0 : decide (0 < (x0_1.size : Int)) = true := decide_eq_true c3
          have c3b1 : decide (0 < x0_1.size) = true := decide_eq_true (by omega)
          clear c3
          (first | rw [c3b0] | (simp only [i64_w, i32_w]; rw [c3b0]) | skip)
          by_cases c4 : 0 < (x0_1.size : Int)
          · rw [if_pos c4] at H
            have c4b0 : decide (0 < (x0_1.size : Int)) = true := decide_eq_true c4
            have c4b1 : decide (0 < x0_1.size) = true := decide_eq_true (by omega)
            clear c4
            by_cases c6 : (bt x0_1 0) = 32
            · rw [if_pos c6] at H
              have c6b0 : ((bt x0_1 0) == 32) = true := beq_iff_eq.mpr c6
              have c6b1 : ((bt x0_1 0) != 32) = false := bne_eq_false_iff_eq.mpr c6
              clear c6
              by_cases c7 : 1 ≤ (x0_1.size : Int)
              · rw [if_pos c7] at H
                have c7b0 := eq_true c7
                have c7b1 : decide (1 ≤ (x0_1.size : Int)) = true := decide_eq_true c7
                clear c7
                have H' := Aside0.mk H
                clear H
                have p5 : 0 ≤ (0 : Int) := (by omega)
                have q5 : 0 < x0_1.size := (by have : (0 : Int) < (x0_1.size : Int) := of_decide_eq_true (by first | (with_reducible assumption) | assumption); omega)
                have hx5 : ∀ h : 0 < x0_1.size, ((x0_1[0]'h).toNat : Int) = bt x0_1 0 := bt_at x0_1 0
                clear p5
                have qi5 : (0 < (x0_1.size : Int)) = True := eq_true (of_decide_eq_true (by first | (with_reducible assumption) | assumption))
                replace q5 := eq_true q5
                go_wp2
                go_roundg k1
                case measure => have := HK1.out; omega
                case rel => exact ⟨(x0_1.extract 1 x0_1.size), (by first | rfl | (simp; done) | (simp [*]; done)), H', ⟨by have := HK1.out; omega⟩, by repeat (first | exact Drawn0.refl _ | apply Drawn0.step)⟩
              · rw [if_neg c7] at H
                exact absurd H (by simp)
            · rw [if_neg c6] at H
              have c6b0 : ((bt x0_1 0) == 32) = false := beq_eq_false_iff_ne.mpr c6
              have c6b1 : ((bt x0_1 0) != 32) = true := bne_iff_ne.mpr c6
              by_cases c9 : (bt x0_1 0) = 9
              · rw [if_pos c9] at H
                have c9b0 : ((bt x0_1 0) == 9) = true := beq_iff_eq.mpr c9
                have c9b1 : ((bt x0_1 0) != 9) = false := bne_eq_false_iff_eq.mpr c9
                clear c9
                by_cases c10 : 1 ≤ (x0_1.size : Int)
                · rw [if_pos c10] at H
                  have c10b0 := eq_true c10
                  have c10b1 : decide (1 ≤ (x0_1.size : Int)) = true := decide_eq_true c10
                  clear c10
                  have H' := Aside0.mk H
                  clear H
                  have p5 : 0 ≤ (0 : Int) := (by omega)
                  have q5 : 0 < x0_1.size := (by have : (0 : Int) < (x0_1.size : Int) := of_decide_eq_true (by first | (with_reducible assumption) | assumption); omega)
                  have hx5 : ∀ h : 0 < x0_1.size, ((x0_1[0]'h).toNat : Int) = bt x0_1 0 := bt_at x0_1 0
                  clear p5
                  have qi5 : (0 < (x0_1.size : Int)) = True := eq_true (of_decide_eq_true (by first | (with_reducible assumption) | assumption))
                  replace q5 := eq_true q5
                  have p8 : 0 ≤ (0 : Int) := (by omega)
                  have q8 : 0 < x0_1.size := (by have : (0 : Int) < (x0_1.size : Int) := of_decide_eq_true (by first | (with_reducible assumption) | assumption); omega)
                  have hx8 : ∀ h : 0 < x0_1.size, ((x0_1[0]'h).toNat : Int) = bt x0_1 0 := bt_at x0_1 0
                  clear p8
                  have qi8 : (0 < (x0_1.size : Int)) = True := eq_true (of_decide_eq_true (by first | (with_reducible assumption) | assumption))
                  replace q8 := eq_true q8
                  go_wp2
                  go_roundg k1
                  case measure => have := HK1.out; omega
                  case rel => exact ⟨(x0_1.extract 1 x0_1.size), (by first | rfl | (simp; done) | (simp [*]; done)), H', ⟨by have := HK1.out; omega⟩, by repeat (first | exact Drawn0.refl _ | apply Drawn0.step)⟩
                · rw [if_neg c10] at H
                  exact absurd H (by simp)
              · rw [if_neg c9] at H
                have c9b0 : ((bt x0_1 0) == 9) = false := beq_eq_false_iff_ne.mpr c9
                have c9b1 : ((bt x0_1 0) != 9) = true := bne_iff_ne.mpr c9
                have H' := Aside0.mk H
                clear H
                have p5 : 0 ≤ (0 : Int) := (by omega)
                have q5 : 0 < x0_1.size := (by have : (0 : Int) < (x0_1.size : Int) := of_decide_eq_true (by first | (with_reducible assumption) | assumption); omega)
                have hx5 : ∀ h : 0 < x0_1.size, ((x0_1[0]'h).toNat : Int) = bt x0_1 0 := bt_at x0_1 0
                clear p5
                have qi5 : (0 < (x0_1.size : Int)) = True := eq_true (of_decide_eq_true (by first | (with_reducible assumption) | assumption))
                replace q5 := eq_true q5
                have p8 : 0 ≤ (0 : Int) := (by omega)
                have q8 : 0 < x0_1.size := (by have : (0 : Int) < (x0_1.size : Int) := of_decide_eq_true (by first | (with_reducible assumption) | assumption); omega)
                have hx8 : ∀ h : 0 < x0_1.size, ((x0_1[0]'h).toNat : Int) = bt x0_1 0 := bt_at x0_1 0
                clear p8
                have qi8 : (0 < (x0_1.size : Int)) = True := eq_true (of_decide_eq_true (by first | (with_reducible assumption) | assumption))
                replace q8 := eq_true q8
                go_wp2
                go_meet
                case rel => exact ⟨_, (x0_1), (by first | rfl | (simp; done) | (simp [*]; done)), H', ⟨by have := HK1.out; first | omega | exact Nat.le_refl _⟩, by repeat (first | exact Drawn0.refl _ | apply Drawn0.step)⟩
          · rw [if_neg c4] at H
            exact absurd H (by simp)
        · rw [if_neg c3] at H
          have c3b0 : decide (0 < (x0_1.size : Int)) = false := decide_eq_false c3
          have c3b1 : decide (0 < x0_1.size) = false := decide_eq_false (by omega)
          clear c3
          (first | rw [c3b0] | (simp only [i64_w, i32_w]; rw [c3b0]) | skip)
          have H' := Aside0.mk H
          clear H
          go_wp2
          go_meet
          case rel => exact ⟨_, (x0_1), (by first | rfl | (simp; done) | (simp [*]; done)), H', ⟨by have := HK1.out; first | omega | exact Nat.le_refl _⟩, by repeat (first | exact Drawn0.refl _ | apply Drawn0.step)⟩
  case rest =>
    clear HC2
    try clear c1
    try clear p2
    try clear c3
    try clear c3b0
    try clear c3b1
    try clear c4
    try clear c4b0
    try clear c4b1
    try clear p5
    try clear q5
    try clear hx5
    try clear qi5
    try clear c6
    try clear c6b0
    try clear c6b1
    try clear c7
    try clear c7b0
    try clear c7b1
    try clear p8
    try clear q8
    try clear hx8
    try clear qi8
    try clear c9
    try clear c9b0
    try clear c9b1
    try clear c10
    try clear c10b0
    try clear c10b1
    try clear p2
    try clear p5
    try clear p8
    try clear q5
    try clear q8
    obtain ⟨kq, x0_1, rfl, HA, HJ1, ⟨mc1, rfl⟩⟩ := hcut
    cases kq with
    | zero => exact absurd HA.out (by simp [gronx_zzTrim.j1])
    | succ kj1 =>
      have H := HA.out
      clear HA
      simp only [gronx_zzTrim.j1] at H
      have H' := Aside0.mk H
      clear H
      go_wp2
      go_loopg [0] kj1 (fun kq v0 w' => ∃ (x0_2 : ByteArray), v0 = .string x0_2 ∧ Aside0 (gronx_zzTrim.l1 kq x0_2 = some r) ∧ Aside0 (kq ≤ kj1) ∧ Drawn0 w w')
      case atStart => exact ⟨(x0_1), (by first | rfl | (simp; done) | (simp [*]; done)), H', ⟨Nat.le_refl _⟩, by repeat (first | exact Drawn0.refl _ | apply Drawn0.step)⟩
      case round =>
        clear H'
        try clear c1
        try clear p2
        try clear c3
        try clear c3b0
        try clear c3b1
        try clear c4
        try clear c4b0
        try clear c4b1
        try clear p5
        try clear q5
        try clear hx5
        try clear qi5
        try clear c6
        try clear c6b0
        try clear c6b1
        try clear c7
        try clear c7b0
        try clear c7b1
        try clear p8
        try clear q8
        try clear hx8
        try clear qi8
        try clear c9
        try clear c9b0
        try clear c9b1
        try clear c10
        try clear c10b0
        try clear c10b1
        try clear p2
        try clear p5
        try clear p8
        try clear q5
        try clear q8
        obtain ⟨x0_2, rfl, HA, HK2, ⟨m2, rfl⟩⟩ := hrel
        cases gk with
        | zero => exact absurd HA.out (by simp [gronx_zzTrim.l1])
        | succ k2 =>
          have H := HA.out
          clear HA
          simp only [gronx_zzTrim.l1] at H
          by_cases c11 : (x0_2.size : Int) > 0
          · rw [if_pos c11] at H
            have c11b0 : decide (0 < (x0_2.size : Int)) = true := decide_eq_true c11
            have c11b1 : decide (0 < x0_2.size) = true := decide_eq_true (by omega)
            clear c11
            obtain ⟨ji12, hji12⟩ : ∃ j_ : Int, (wrap64 ((x0_2.size : Int) - 1)) = j_ := ⟨_, rfl⟩
            replace H : (if 0 ≤ (ji12) then (if (ji12) < (x0_2.size : Int) then (if (bt x0_2 (ji12)) = 32 then (if (ji12) ≤ (x0_2.size : Int) then (gronx_zzTrim.l1 k2 (x0_2.extract 0 ((ji12) : Int).toNat)) else (none)) else (if (bt x0_2 (ji12)) = 9 then (if (ji12) ≤ (x0_2.size : Int) then (gronx_zzTrim.l1 k2 (x0_2.extract 0 ((ji12) : Int).toNat)) else (none)) else (some x0_2))) else (none)) else (none)) = some r := by first | (rw [hji12] at H; exact H) | (simp only [hji12] at H ⊢; exact H)
            have hji12w : (IntKind.i64.wrap ((x0_2.size : Int) - 1)) = ji12 := (i64_w _).trans hji12
            by_cases c13 : 0 ≤ (ji12)
            · rw [if_pos c13] at H
              have c13b0 : decide (0 ≤ (ji12)) = true := decide_eq_true c13
              clear c13
              by_cases c14 : (ji12) < (x0_2.size : Int)
              · rw [if_pos c14] at H
                have c14b0 : decide ((ji12) < (x0_2.size : Int)) = true := decide_eq_true c14
                clear c14
                by_cases c16 : (bt x0_2 (ji12)) = 32
                · rw [if_pos c16] at H
                  have c16b0 : ((bt x0_2 (ji12)) == 32) = true := beq_iff_eq.mpr c16
                  have c16b1 : ((bt x0_2 (ji12)) != 32) = false := bne_eq_false_iff_eq.mpr c16
                  clear c16
                  have c17b0 := eq_true (of_decide_eq_true (by first | (with_reducible assumption) | assumption) : 0 ≤ (ji12))
                  by_cases c18 : (ji12) ≤ (x0_2.size : Int)
                  · rw [if_pos c18] at H
                    have c18b0 := eq_true c18
                    have c18b1 : decide ((ji12) ≤ (x0_2.size : Int)) = true := decide_eq_true c18
                    clear c18
                    have H' := Aside0.mk H
                    clear H
                    have p15 : 0 ≤ ((ji12) : Int) := of_decide_eq_true (by first | (with_reducible assumption) | assumption)
                    have q15 : (ji12) < (x0_2.size : Int) := of_decide_eq_true (by first | (with_reducible assumption) | assumption)
                    have hx15 := bt_at x0_2 (ji12)
                    replace p15 := eq_true p15
                    replace q15 := eq_true q15
                    go_wp2
                    go_roundg k2
                    case measure => have := HJ1.out; have := HK2.out; omega
                    case rel => exact ⟨(x0_2.extract 0 ((ji12) : Int).toNat), (by first | rfl | (simp; done) | (simp only [← hji12] <;> (first | rfl | simp)) | (simp [*]; done)), H', ⟨by have := HJ1.out; have := HK2.out; omega⟩, by repeat (first | exact Drawn0.refl _ | apply Drawn0.step)⟩
                  · rw [if_neg c18] at H
                    exact absurd H (by simp)
                · rw [if_neg c16] at H
                  have c16b0 : ((bt x0_2 (ji12)) == 32) = false := beq_eq_false_iff_ne.mpr c16
                  have c16b1 : ((bt x0_2 (ji12)) != 32) = true := bne_iff_ne.mpr c16
                  by_cases c20 : (bt x0_2 (ji12)) = 9
                  · rw [if_pos c20] at H
                    have c20b0 : ((bt x0_2 (ji12)) == 9) = true := beq_iff_eq.mpr c20
                    have c20b1 : ((bt x0_2 (ji12)) != 9) = false := bne_eq_false_iff_eq.mpr c20
                    clear c20
                    have c21b0 := eq_true (of_decide_eq_true (by first | (with_reducible assumption) | assumption) : 0 ≤ (ji12))
                    by_cases c22 : (ji12) ≤ (x0_2.size : Int)
                    · rw [if_pos c22] at H
                      have c22b0 := eq_true c22
                      have c22b1 : decide ((ji12) ≤ (x0_2.size : Int)) = true := decide_eq_true c22
                      clear c22
                      have H' := Aside0.mk H
                      clear H
                      have p15 : 0 ≤ ((ji12) : Int) := of_decide_eq_true (by first | (with_reducible assumption) | assumption)
                      have q15 : (ji12) < (x0_2.size : Int) := of_decide_eq_true (by first | (with_reducible assumption) | assumption)
                      have hx15 := bt_at x0_2 (ji12)
                      replace p15 := eq_true p15
                      replace q15 := eq_true q15
                      have p19 : 0 ≤ ((ji12) : Int) := of_decide_eq_true (by first | (with_reducible assumption) | assumption)
                      have q19 : (ji12) < (x0_2.size : Int) := of_decide_eq_true (by first | (with_reducible assumption) | assumption)
                      have hx19 := bt_at x0_2 (ji12)
                      replace p19 := eq_true p19
                      replace q19 := eq_true q19
                      go_wp2
                      go_roundg k2
                      case measure => have := HJ1.out; have := HK2.out; omega
                      case rel => exact ⟨(x0_2.extract 0 ((ji12) : Int).toNat), (by first | rfl | (simp; done) | (simp only [← hji12] <;> (first | rfl | simp)) | (simp [*]; done)), H', ⟨by have := HJ1.out; have := HK2.out; omega⟩, by repeat (first | exact Drawn0.refl _ | apply Drawn0.step)⟩
                    · rw [if_neg c22] at H
                      exact absurd H (by simp)
                  · rw [if_neg c20] at H
                    have c20b0 : ((bt x0_2 (ji12)) == 9) = false := beq_eq_false_iff_ne.mpr c20
                    have c20b1 : ((bt x0_2 (ji12)) != 9) = true := bne_iff_ne.mpr c20
                    obtain rfl := Option.some.inj H
                    have p15 : 0 ≤ ((ji12) : Int) := of_decide_eq_true (by first | (with_reducible assumption) | assumption)
                    have q15 : (ji12) < (x0_2.size : Int) := of_decide_eq_true (by first | (with_reducible assumption) | assumption)
                    have hx15 := bt_at x0_2 (ji12)
                    replace p15 := eq_true p15
                    replace q15 := eq_true q15
                    have p19 : 0 ≤ ((ji12) : Int) := of_decide_eq_true (by first | (with_reducible assumption) | assumption)
                    have q19 : (ji12) < (x0_2.size : Int) := of_decide_eq_true (by first | (with_reducible assumption) | assumption)
                    have hx19 := bt_at x0_2 (ji12)
                    replace p19 := eq_true p19
                    replace q19 := eq_true q19
                    go_wp2
                    go_ret
                    exact ⟨by first | rfl | (simp; done) | (simp only [← hji12] <;> (first | rfl | simp)) | (simp [*]; done), by repeat (first | exact Drawn0.refl _ | apply Drawn0.step)⟩
              · rw [if_neg c14] at H
                exact absurd H (by simp)
            · rw [if_neg c13] at H
              exact absurd H (by simp)
          · rw [if_neg c11] at H
            have c11b0 : decide (0 < (x0_2.size : Int)) = false := decide_eq_false c11
            have c11b1 : decide (0 < x0_2.size) = false := decide_eq_false (by omega)
            clear c11
            obtain rfl := Option.some.inj H
            go_wp2
            go_ret
            exact ⟨by first | rfl | (simp; done) | (simp [*]; done), by repeat (first | exact Drawn0.refl _ | apply Drawn0.step)⟩
end Go.Proofs.YtkhgeonlohafgaaGreatDoor.Core
namespace Go.Proofs.YtkhgeonlohafgaaGreatDoor.Core
open Go.RowKit Go.Proofs.YtkhgeonlohafgaaGreatDoorW.PrintWords Go.Proofs.YtkhgeonlohafgaaGreatDoorW.PrintLast Go.Proofs.YtkhgeonlohafgaaGreatDoorW.PrintMore
attribute [local go_sem] max2_int min2_int max_two min_two max_three min_three max_four min_four   -- for this text's walks alone
set_option linter.unusedVariables false
set_option linter.unusedSimpArgs false
mutual
def gronx_zzSpaces.l0 : Nat → ByteArray → List Int → Bool → Int → Option (ByteArray)
  | 0, _, _, _, _ => none
  | k + 1, x0, x3, x4, x5 => if x5 < (x0.size : Int) then (if 0 ≤ x5 then (if (bt x0 x5) = 32 then (gronx_zzSpaces.j1 k x0 x3 x4 x5 ((bt x0 x5) == 32)) else (if (bt x0 x5) = 9 then (gronx_zzSpaces.j1 k x0 x3 x4 x5 ((bt x0 x5) == 9)) else (if (bt x0 x5) = 10 then (gronx_zzSpaces.j1 k x0 x3 x4 x5 ((bt x0 x5) == 10)) else (if (bt x0 x5) = 12 then (gronx_zzSpaces.j1 k x0 x3 x4 x5 ((bt x0 x5) == 12)) else (gronx_zzSpaces.j1 k x0 x3 x4 x5 ((bt x0 x5) == 13)))))) else (none)) else (some (strOfNums x3))
def gronx_zzSpaces.j1 : Nat → ByteArray → List Int → Bool → Int → Bool → Option (ByteArray)
  | 0, _, _, _, _, _ => none
  | k + 1, x0, x3, x4, x5, x21 => if x21 = true then (if x4 = true then (gronx_zzSpaces.l0 k x0 x3 true (wrap64 (x5 + 1))) else (if x3.length < 140737488355328 then (gronx_zzSpaces.l0 k x0 (x3 ++ [32]) true (wrap64 (x5 + 1))) else (none))) else (if 0 ≤ x5 then (if x5 < (x0.size : Int) then (if x3.length < 140737488355328 then (gronx_zzSpaces.l0 k x0 (x3 ++ [bt x0 x5]) false (wrap64 (x5 + 1))) else (none)) else (none)) else (none))
end
def gronx_zzSpaces.f (k : Nat) (a0 : ByteArray) : Option (ByteArray) := gronx_zzSpaces.l0 k a0 ([] : List Int) false 0
set_option maxHeartbeats 8000000 in
set_option maxRecDepth 100000 in
theorem gronx_zzSpaces.calls (k : Nat) (a0 : ByteArray) (r : ByteArray) (w : World) (h : gronx_zzSpaces.f k a0 = some r) :
    Calls Tryz.prog 76 #[.string a0] w fun e w' => e = .returned (.string r) ∧ Below w.heap.size w w' := by
  have HB := Aside0.mk (Below.refl w.heap.size w)
  have H : (gronx_zzSpaces.l0 k a0 ([] : List Int) false 0) = some r := h
  clear h
  have H' := Aside0.mk H
  clear H
  go_enter Tryz.func76, Tryz.ntmps76
  go_wp2
  go_loopg [3, 4, 5] k (fun kq v3 v4 v5 w' => ∃ (x3_1 : List Int) (x4_1 : Bool) (x5_1 : Int), v4 = .bool x4_1 ∧ v5 = .int .i64 x5_1 ∧ Aside0 (gronx_zzSpaces.l0 kq a0 x3_1 x4_1 x5_1 = some r) ∧ Aside0 (kq ≤ k) ∧ Aside0 (Kd.R (Kd.int .u8) 5 w' w.heap.size (fun _ => True) v3 x3_1) ∧ Aside0 (Below w.heap.size w w'))
  case atStart => exact ⟨(([] : List Int)), (false), (0), (by first | rfl | (simp; done) | (simp [*]; done)), (by first | rfl | (simp; done) | (simp [*]; done)), H', ⟨Nat.le_refl _⟩, ⟨by first | exact Kd.R_nil _ _ _ _ _ | exact Kd.N_nil _ _ _ _ _ | exact Kd.V_nil _ _ _ _ _ | exact Kd.Q_nil _ _ _ _ _ | exact Kd.S_nil _ _ _ _ _⟩, ⟨by repeat (first | (with_reducible first | exact HB.out | apply below_alloc | apply pw_below_drewN | apply below_drew1) | exact HB.out)⟩⟩
  case round =>
    clear H'
    obtain ⟨x3_1, x4_1, x5_1, rfl, rfl, HA, HK1, HO_3, HB⟩ := hrel
    cases gk with
    | zero => exact absurd HA.out (by simp [gronx_zzSpaces.l0])
    | succ k1 =>
      have H := HA.out
      clear HA
      simp only [gronx_zzSpaces.l0] at H
      by_cases c2 : x5_1 < (a0.size : Int)
      · rw [if_pos c2] at H
        have c2b0 : decide (x5_1 < (a0.size : Int)) = true := decide_eq_true c2
        clear c2
        by_cases c3 : 0 ≤ x5_1
        · rw [if_pos c3] at H
          have c3b0 : decide (0 ≤ x5_1) = true := decide_eq_true c3
          clear c3
          have HC5 := Aside0.mk H
          clear H
          have p4 : 0 ≤ (x5_1 : Int) := of_decide_eq_true (by first | (with_reducible assumption) | assumption)
          have q4 : x5_1 < (a0.size : Int) := of_decide_eq_true (by first | (with_reducible assumption) | assumption)
          have hx4 := bt_at a0 x5_1
          replace p4 := eq_true p4
          replace q4 := eq_true q4
          go_upto_if 21 with (fail)
          go_cut [21] (fun v21 wc => ∃ (kq : Nat) (x21_4 : Bool), v21 = .bool x21_4 ∧ Aside0 (gronx_zzSpaces.j1 kq a0 x3_1 x4_1 x5_1 x21_4 = some r) ∧ Aside0 (kq ≤ k1) ∧ Aside0 (Kd.R (Kd.int .u8) 5 wc w.heap.size (fun _ => True) u3 x3_1) ∧ Aside0 (Below w.heap.size w wc))
          case first =>
            have H := HC5.out
            clear HC5
            by_cases c6 : (bt a0 x5_1) = 32
            · rw [if_pos c6] at H
              have c6b0 : ((bt a0 x5_1) == 32) = true := beq_iff_eq.mpr c6
              have c6b1 : ((bt a0 x5_1) != 32) = false := bne_eq_false_iff_eq.mpr c6
              clear c6
              (first | rw [c6b0] | (simp only [i64_w, i32_w]; rw [c6b0]) | skip)
              have H' := Aside0.mk H
              clear H
              go_wp2
              go_meet
              case rel => exact ⟨_, (((bt a0 x5_1) == 32)), (by first | rfl | (simp; done) | (simp [*]; done)), H', ⟨by have := HK1.out; first | omega | exact Nat.le_refl _⟩, ⟨by (with_reducible repeat (first | apply Kd.R_alloc | apply Kd.R_drewN | apply Kd.R_drew)); exact HO_3.out⟩, ⟨by repeat (first | (with_reducible first | exact HB.out | apply below_alloc | apply pw_below_drewN | apply below_drew1) | exact HB.out)⟩⟩
            · rw [if_neg c6] at H
              have c6b0 : ((bt a0 x5_1) == 32) = false := beq_eq_false_iff_ne.mpr c6
              have c6b1 : ((bt a0 x5_1) != 32) = true := bne_iff_ne.mpr c6
              (first | rw [c6b0] | (simp only [i64_w, i32_w]; rw [c6b0]) | skip)
              by_cases c7 : (bt a0 x5_1) = 9
              · rw [if_pos c7] at H
                have c7b0 : ((bt a0 x5_1) == 9) = true := beq_iff_eq.mpr c7
                have c7b1 : ((bt a0 x5_1) != 9) = false := bne_eq_false_iff_eq.mpr c7
                clear c7
                have H' := Aside0.mk H
                clear H
                go_wp2
                go_meet
                case rel => exact ⟨_, (((bt a0 x5_1) == 9)), (by first | rfl | (simp; done) | (simp [*]; done)), H', ⟨by have := HK1.out; first | omega | exact Nat.le_refl _⟩, ⟨by (with_reducible repeat (first | apply Kd.R_alloc | apply Kd.R_drewN | apply Kd.R_drew)); exact HO_3.out⟩, ⟨by repeat (first | (with_reducible first | exact HB.out | apply below_alloc | apply pw_below_drewN | apply below_drew1) | exact HB.out)⟩⟩
              · rw [if_neg c7] at H
                have c7b0 : ((bt a0 x5_1) == 9) = false := beq_eq_false_iff_ne.mpr c7
                have c7b1 : ((bt a0 x5_1) != 9) = true := bne_iff_ne.mpr c7
                by_cases c8 : (bt a0 x5_1) = 10
                · rw [if_pos c8] at H
                  have c8b0 : ((bt a0 x5_1) == 10) = true := beq_iff_eq.mpr c8
                  have c8b1 : ((bt a0 x5_1) != 10) = false := bne_eq_false_iff_eq.mpr c8
                  clear c8
                  have H' := Aside0.mk H
                  clear H
                  go_wp2
                  go_meet
                  case rel => exact ⟨_, (((bt a0 x5_1) == 10)), (by first | rfl | (simp; done) | (simp [*]; done)), H', ⟨by have := HK1.out; first | omega | exact Nat.le_refl _⟩, ⟨by (with_reducible repeat (first | apply Kd.R_alloc | apply Kd.R_drewN | apply Kd.R_drew)); exact HO_3.out⟩, ⟨by repeat (first | (with_reducible first | exact HB.out | apply below_alloc | apply pw_below_drewN | apply below_drew1) | exact HB.out)⟩⟩
                · rw [if_neg c8] at H
                  have c8b0 : ((bt a0 x5_1) == 10) = false := beq_eq_false_iff_ne.mpr c8
                  have c8b1 : ((bt a0 x5_1) != 10) = true := bne_iff_ne.mpr c8
                  by_cases c9 : (bt a0 x5_1) = 12
                  · rw [if_pos c9] at H
                    have c9b0 : ((bt a0 x5_1) == 12) = true := beq_iff_eq.mpr c9
                    have c9b1 : ((bt a0 x5_1) != 12) = false := bne_eq_false_iff_eq.mpr c9
                    clear c9
                    have H' := Aside0.mk H
                    clear H
                    go_wp2
                    go_meet
                    case rel => exact ⟨_, (((bt a0 x5_1) == 12)), (by first | rfl | (simp; done) | (simp [*]; done)), H', ⟨by have := HK1.out; first | omega | exact Nat.le_refl _⟩, ⟨by (with_reducible repeat (first | apply Kd.R_alloc | apply Kd.R_drewN | apply Kd.R_drew)); exact HO_3.out⟩, ⟨by repeat (first | (with_reducible first | exact HB.out | apply below_alloc | apply pw_below_drewN | apply below_drew1) | exact HB.out)⟩⟩
                  · rw [if_neg c9] at H
                    have c9b0 : ((bt a0 x5_1) == 12) = false := beq_eq_false_iff_ne.mpr c9
                    have c9b1 : ((bt a0 x5_1) != 12) = true := bne_iff_ne.mpr c9
                    have H' := Aside0.mk H
                    clear H
                    go_wp2
                    go_meet
                    case rel => exact ⟨_, (((bt a0 x5_1) == 13)), (by first | rfl | (simp; done) | (simp [*]; done)), H', ⟨by have := HK1.out; first | omega | exact Nat.le_refl _⟩, ⟨by (with_reducible repeat (first | apply Kd.R_alloc | apply Kd.R_drewN | apply Kd.R_drew)); exact HO_3.out⟩, ⟨by repeat (first | (with_reducible first | exact HB.out | apply below_alloc | apply pw_below_drewN | apply below_drew1) | exact HB.out)⟩⟩
          case rest =>
            clear HC5
            try clear c2
            try clear c2b0
            try clear p2
            try clear c3
            try clear c3b0
            try clear p4
            try clear q4
            try clear hx4
            try clear c6
            try clear c6b0
            try clear c6b1
            try clear c7
            try clear c7b0
            try clear c7b1
            try clear c8
            try clear c8b0
            try clear c8b1
            try clear c9
            try clear c9b0
            try clear c9b1
            try clear p4
            try clear q4
            obtain ⟨kq, x21_4, rfl, HA, HJ4, HO_3, HB⟩ := hcut
            cases kq with
            | zero => exact absurd HA.out (by simp [gronx_zzSpaces.j1])
            | succ kj4 =>
              have H := HA.out
              clear HA
              simp only [gronx_zzSpaces.j1] at H
              by_cases c10 : x21_4 = true
              · subst c10
                have H1 : (if x4_1 = true then (gronx_zzSpaces.l0 kj4 a0 x3_1 true (wrap64 (x5_1 + 1))) else (if x3_1.length < 140737488355328 then (gronx_zzSpaces.l0 kj4 a0 (x3_1 ++ [32]) true (wrap64 (x5_1 + 1))) else (none))) = some r := by rw [if_pos rfl] at H; exact H
                clear H
                have H := H1
                clear H1
                by_cases c11 : x4_1 = true
                · subst c11
                  have H1 : (gronx_zzSpaces.l0 kj4 a0 x3_1 true (wrap64 (x5_1 + 1))) = some r := by rw [if_pos rfl] at H; exact H
                  clear H
                  have H := H1
                  clear H1
                  have H' := Aside0.mk H
                  clear H
                  go_wp2
                  go_roundg kj4
                  case measure => have := HK1.out; have := HJ4.out; omega
                  case rel => exact ⟨(x3_1), (true), (wrap64 (x5_1 + 1)), (by first | rfl | (simp; done) | (simp [*]; done)), (by first | rfl | (simp; done) | (simp [*]; done)), H', ⟨by have := HK1.out; have := HJ4.out; omega⟩, ⟨by (with_reducible repeat (first | apply Kd.R_alloc | apply Kd.R_drewN | apply Kd.R_drew)); exact HO_3.out⟩, ⟨by repeat (first | (with_reducible first | exact HB.out | apply below_alloc | apply pw_below_drewN | apply below_drew1) | exact HB.out)⟩⟩
                · replace c11 := Bool.eq_false_iff.mpr c11
                  subst c11
                  have H1 : (if x3_1.length < 140737488355328 then (gronx_zzSpaces.l0 kj4 a0 (x3_1 ++ [32]) true (wrap64 (x5_1 + 1))) else (none)) = some r := by rw [if_neg (show ¬ (false = true) by decide)] at H; exact H
                  clear H
                  have H := H1
                  clear H1
                  by_cases c12 : x3_1.length < 140737488355328
                  · rw [if_pos c12] at H
                    have LMc12 := Aside0.mk c12
                    clear c12
                    obtain ⟨y202, hy202⟩ : ∃ y_ : List Int, y_ = (x3_1 ++ [32]) := ⟨_, rfl⟩
                    replace H : (gronx_zzSpaces.l0 kj4 a0 y202 true (wrap64 (x5_1 + 1))) = some r := by first | (rw [hy202]; with_reducible exact H) | (have H2_ := (Option.bind_some _ _).symm.trans H; rw [hy202]; with_reducible exact H2_) | (have H2_ := (Option.bind_some _ _).symm.trans H; with_reducible exact H2_) | with_reducible exact H | (rw [hy202]; exact H) | exact H
                    have Ny202 := Aside0.mk hy202
                    clear hy202
                    have H' := Aside0.mk H
                    clear H
                    go_wp2_with (first | ((with_reducible refine gate_builtin (b := .append) (xs := #[.tmp 29, .tmp 30]) rfl ?_); at_builtin; refine Kd.R_append (Kd.int .u8) (w0 := w) w.heap.size rfl (.tmp 29) (.tmp 30) 78 5 (.int .u8 0) 1 rfl Tryz.underlying78 info5 rfl (by decide) (by omega) u3 x3_1 32 [.int .u8 32] (fun _ => True) (fun _ => False) rfl rfl ?aP (fun _ hk => hk.elim) ?aF ?aO ?aB ?aS ?aL ?_; (case aP => exact rfl); (case aB => exact (by repeat (first | (with_reducible first | exact HB.out | apply below_alloc | apply pw_below_drewN | apply below_drew1) | exact HB.out))); (case aF => exact (fun _ _ => trivial)); (case aO => exact (by (with_reducible repeat (first | apply Kd.R_alloc | apply Kd.R_drewN | apply Kd.R_drew)); exact HO_3.out)); (case aS => exact (below_size (by repeat (first | (with_reducible first | exact HB.out | apply below_alloc | apply pw_below_drewN | apply below_drew1) | exact HB.out)))); (case aL => have := LMc12.out; omega); intro v203 w13 ho hb hg hat; rw [← Ny202.out] at ho; have n0_ := Aside0.mk (hb); have n1_ := Aside0.mk (ho); clear HB; clear HO_3; have HB := n0_; have HO204 := n1_; clear n0_ n1_; clear ho hb hg hat))
                    go_roundg kj4
                    case measure => have := HK1.out; have := HJ4.out; omega
                    case rel => exact ⟨(y202), (true), (wrap64 (x5_1 + 1)), (by first | rfl | (simp; done) | (simp [*]; done)), (by first | rfl | (simp; done) | (simp [*]; done)), H', ⟨by have := HK1.out; have := HJ4.out; omega⟩, ⟨by (with_reducible repeat (first | apply Kd.R_alloc | apply Kd.R_drewN | apply Kd.R_drew)); exact HO204.out⟩, ⟨by repeat (first | (with_reducible first | exact HB.out | apply below_alloc | apply pw_below_drewN | apply below_drew1) | exact HB.out)⟩⟩
                  · rw [if_neg c12] at H
                    exact absurd H (by simp)
              · replace c10 := Bool.eq_false_iff.mpr c10
                subst c10
                have H1 : (if 0 ≤ x5_1 then (if x5_1 < (a0.size : Int) then (if x3_1.length < 140737488355328 then (gronx_zzSpaces.l0 kj4 a0 (x3_1 ++ [bt a0 x5_1]) false (wrap64 (x5_1 + 1))) else (none)) else (none)) else (none)) = some r := by rw [if_neg (show ¬ (false = true) by decide)] at H; exact H
                clear H
                have H := H1
                clear H1
                by_cases c14 : 0 ≤ x5_1
                · rw [if_pos c14] at H
                  have c14b0 : decide (0 ≤ x5_1) = true := decide_eq_true c14
                  clear c14
                  by_cases c15 : x5_1 < (a0.size : Int)
                  · rw [if_pos c15] at H
                    have c15b0 : decide (x5_1 < (a0.size : Int)) = true := decide_eq_true c15
                    clear c15
                    by_cases c17 : x3_1.length < 140737488355328
                    · rw [if_pos c17] at H
                      have LMc17 := Aside0.mk c17
                      clear c17
                      obtain ⟨y205, hy205⟩ : ∃ y_ : List Int, y_ = (x3_1 ++ [bt a0 x5_1]) := ⟨_, rfl⟩
                      replace H : (gronx_zzSpaces.l0 kj4 a0 y205 false (wrap64 (x5_1 + 1))) = some r := by first | (rw [hy205]; with_reducible exact H) | (have H2_ := (Option.bind_some _ _).symm.trans H; rw [hy205]; with_reducible exact H2_) | (have H2_ := (Option.bind_some _ _).symm.trans H; with_reducible exact H2_) | with_reducible exact H | (rw [hy205]; exact H) | exact H
                      have Ny205 := Aside0.mk hy205
                      clear hy205
                      have H' := Aside0.mk H
                      clear H
                      have p16 : 0 ≤ (x5_1 : Int) := of_decide_eq_true (by first | (with_reducible assumption) | assumption)
                      have q16 : x5_1 < (a0.size : Int) := of_decide_eq_true (by first | (with_reducible assumption) | assumption)
                      have hx16 := bt_at a0 x5_1
                      replace p16 := eq_true p16
                      replace q16 := eq_true q16
                      go_wp2_with (first | ((with_reducible refine gate_builtin (b := .append) (xs := #[.tmp 15, .tmp 19]) rfl ?_); at_builtin; refine Kd.R_append (Kd.int .u8) (w0 := w) w.heap.size rfl (.tmp 15) (.tmp 19) 78 5 (.int .u8 0) 1 rfl Tryz.underlying78 info5 rfl (by decide) (by omega) u3 x3_1 (bt a0 x5_1) [.int .u8 (bt a0 x5_1)] (fun _ => True) (fun _ => False) rfl rfl ?aP (fun _ hk => hk.elim) ?aF ?aO ?aB ?aS ?aL ?_; (case aP => exact rfl); (case aB => exact (by repeat (first | (with_reducible first | exact HB.out | apply below_alloc | apply pw_below_drewN | apply below_drew1) | exact HB.out))); (case aF => exact (fun _ _ => trivial)); (case aO => exact (by (with_reducible repeat (first | apply Kd.R_alloc | apply Kd.R_drewN | apply Kd.R_drew)); exact HO_3.out)); (case aS => exact (below_size (by repeat (first | (with_reducible first | exact HB.out | apply below_alloc | apply pw_below_drewN | apply below_drew1) | exact HB.out)))); (case aL => have := LMc17.out; omega); intro v206 w18 ho hb hg hat; rw [← Ny205.out] at ho; have n0_ := Aside0.mk (hb); have n1_ := Aside0.mk (ho); clear HB; clear HO_3; have HB := n0_; have HO207 := n1_; clear n0_ n1_; clear ho hb hg hat))
                      go_roundg kj4
                      case measure => have := HK1.out; have := HJ4.out; omega
                      case rel => exact ⟨(y205), (false), (wrap64 (x5_1 + 1)), (by first | rfl | (simp; done) | (simp [*]; done)), (by first | rfl | (simp; done) | (simp [*]; done)), H', ⟨by have := HK1.out; have := HJ4.out; omega⟩, ⟨by (with_reducible repeat (first | apply Kd.R_alloc | apply Kd.R_drewN | apply Kd.R_drew)); exact HO207.out⟩, ⟨by repeat (first | (with_reducible first | exact HB.out | apply below_alloc | apply pw_below_drewN | apply below_drew1) | exact HB.out)⟩⟩
                    · rw [if_neg c17] at H
                      exact absurd H (by simp)
                  · rw [if_neg c15] at H
                    exact absurd H (by simp)
                · rw [if_neg c14] at H
                  exact absurd H (by simp)
        · rw [if_neg c3] at H
          exact absurd H (by simp)
      · rw [if_neg c2] at H
        have c2b0 : decide (x5_1 < (a0.size : Int)) = false := decide_eq_false c2
        clear c2
        obtain rfl := Option.some.inj H
        have hcv19 := own_string (P := Tryz.prog) Tryz.underlying78 Tryz.underlying5 Tryz.underlying9 (Kd.own_of_R HO_3.out)
        go_wp2
        go_ret
        exact ⟨by first | rfl | (simp [errW_none, errW_some] <;> rfl) | (simp [*, errW_none, errW_some] <;> rfl), by repeat (first | (with_reducible first | exact HB.out | apply below_alloc | apply pw_below_drewN | apply below_drew1) | exact HB.out)⟩
end Go.Proofs.YtkhgeonlohafgaaGreatDoor.Core
