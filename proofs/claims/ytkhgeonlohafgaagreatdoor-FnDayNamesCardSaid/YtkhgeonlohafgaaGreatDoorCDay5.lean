/- Contracts and plain lemmas of this seat (part 5), merged by wip/merge2.py; what is proved stands in the claim's last text. -/
import Derived.Test.YtkhgeonlohafgaaGreatDoorCDay1
import Derived.Test.YtkhgeonlohafgaaGreatDoorCDay2
import Derived.Test.YtkhgeonlohafgaaGreatDoorCDay3
import Derived.Test.YtkhgeonlohafgaaGreatDoorCDay4
namespace Go.Proofs.YtkhgeonlohafgaaGreatDoor.Core
open Go.RowKit Go.Proofs.YtkhgeonlohafgaaGreatDoorW.PrintWords Go.Proofs.YtkhgeonlohafgaaGreatDoorW.PrintLast Go.Proofs.YtkhgeonlohafgaaGreatDoorW.PrintMore
attribute [local go_sem] max2_int min2_int max_two min_two max_three min_three max_four min_four   -- for this text's walks alone
set_option linter.unusedVariables false
set_option linter.unusedSimpArgs false
mutual
def gronx_SegmentChecker_isOffsetDue.j0 : Nat → ByteArray → Int → Int → Bool → Option (Bool × Option Int)
  | 0, _, _, _, _ => none
  | k + 1, x1, x2, x3, x19 => if x19 = true then (some (true, none)) else ((gronx_boundsByPos.f k x3).bind fun t535 => ((gronx_zzContains.f k x1 (⟨#[47]⟩ : ByteArray)).bind fun t538 => (if t538 = true then ((gronx_inStep.f k x2 x1 t535 (x3 == 5)).bind fun bt539 => (some (bt539.1, bt539.2))) else ((gronx_zzContains.f k x1 (⟨#[45]⟩ : ByteArray)).bind fun t541 => (if t541 = true then ((gronx_inRange.f k x2 x1 t535 (x3 == 5)).bind fun bt542 => (some (bt542.1, bt542.2))) else ((strconv_Atoi.f x1).bind fun bt544 => (if bt544.2.isNone = true then (if 0 < (t535.length : Int) then (if bt544.1 < (rd t535 0) then (gronx_SegmentChecker_isOffsetDue.j1 k x2 (x3 == 5) bt544.1 true) else (if 1 < (t535.length : Int) then (gronx_SegmentChecker_isOffsetDue.j1 k x2 (x3 == 5) bt544.1 (decide (bt544.1 > (rd t535 1)))) else (none))) else (none)) else (some (false, some (bt544.2.getD 0))))))))))
def gronx_SegmentChecker_isOffsetDue.j1 : Nat → Int → Bool → Int → Bool → Option (Bool × Option Int)
  | 0, _, _, _, _ => none
  | k + 1, x2, x11, x12, x61 => if x61 = true then ((errors_New.f (⟨#[115, 101, 103, 109, 101, 110, 116, 35, 58, 32, 111, 117, 116, 32, 111, 102, 32, 98, 111, 117, 110, 100, 115, 40, 44, 32, 41]⟩ : ByteArray)).bind fun t549 => (some (false, t549))) else (if x11 = true then (if x12 = x2 then (some (true, none)) else (if x12 = 7 then (some ((x2 == 0), none)) else (some (false, none)))) else (if x2 = 0 then (if x12 = 0 then (some ((x2 == 0), none)) else (some (false, none))) else (if x12 = 0 then (some ((x2 == 0), none)) else (if x12 = x2 then (some (true, none)) else (some (false, none))))))
end
def gronx_SegmentChecker_isOffsetDue.f (k : Nat) (a0 : Option Addr) (a1 : ByteArray) (a2 : Int) (a3 : Int) : Option (Bool × Option Int) := if a1.toList = ([42] : List UInt8) then (gronx_SegmentChecker_isOffsetDue.j0 k a1 a2 a3 true) else (gronx_SegmentChecker_isOffsetDue.j0 k a1 a2 a3 (a1.toList == ([63] : List UInt8)))
set_option maxHeartbeats 8000000 in
set_option maxRecDepth 100000 in
theorem gronx_SegmentChecker_isOffsetDue.calls (k : Nat) (a0 : Option Addr) (a1 : ByteArray) (a2 : Int) (a3 : Int) (r1 : Bool) (r2 : Option Int) (w : World) (h : gronx_SegmentChecker_isOffsetDue.f k a0 a1 a2 a3 = some (r1, r2)) :
    Calls Tryz.prog 60 #[.pointer a0, .string a1, .int .i64 a2, .int .i64 a3] w fun e w' => e = .returned (.tuple #[.bool r1, errW r2]) ∧ Below w.heap.size w w' := by
  have hu71 := Tryz.underlying71
  have HB := Aside0.mk (Below.refl w.heap.size w)
  have H : (if a1.toList = ([42] : List UInt8) then (gronx_SegmentChecker_isOffsetDue.j0 k a1 a2 a3 true) else (gronx_SegmentChecker_isOffsetDue.j0 k a1 a2 a3 (a1.toList == ([63] : List UInt8)))) = some (r1, r2) := h
  clear h
  have HC5 := Aside0.mk H
  clear H
  go_enter Tryz.func60, Tryz.ntmps60
  go_upto_region 1 with (fail)
  go_cut [19] (fun v19 wc => ∃ (kq : Nat) (x19_4 : Bool), v19 = .bool x19_4 ∧ Aside0 (gronx_SegmentChecker_isOffsetDue.j0 kq a1 a2 a3 x19_4 = some (r1, r2)) ∧ Aside0 (kq ≤ k) ∧ Aside0 (Below w.heap.size w wc))
  case first =>
    have H := HC5.out
    clear HC5
    by_cases c6 : a1.toList = ([42] : List UInt8)
    · rw [if_pos c6] at H
      have c6b0 : (a1.toList == ([42] : List UInt8)) = true := beq_iff_eq.mpr c6
      have c6b1 : (a1.toList != ([42] : List UInt8)) = false := bne_eq_false_iff_eq.mpr c6
      clear c6
      (first | rw [c6b0] | (simp only [i64_w, i32_w]; rw [c6b0]) | skip)
      have H' := Aside0.mk H
      clear H
      go_wp2
      go_meet
      case rel => exact ⟨_, (true), (by first | rfl | (simp; done) | (simp [*]; done)), H', ⟨by first | omega | exact Nat.le_refl _⟩, ⟨by repeat (first | (with_reducible first | exact HB.out | apply below_alloc | apply pw_below_drewN | apply below_drew1) | exact HB.out)⟩⟩
    · rw [if_neg c6] at H
      have c6b0 : (a1.toList == ([42] : List UInt8)) = false := beq_eq_false_iff_ne.mpr c6
      have c6b1 : (a1.toList != ([42] : List UInt8)) = true := bne_iff_ne.mpr c6
      (first | rw [c6b0] | (simp only [i64_w, i32_w]; rw [c6b0]) | skip)
      have H' := Aside0.mk H
      clear H
      go_wp2
      go_meet
      case rel => exact ⟨_, ((a1.toList == ([63] : List UInt8))), (by first | rfl | (simp; done) | (simp [*]; done)), H', ⟨by first | omega | exact Nat.le_refl _⟩, ⟨by repeat (first | (with_reducible first | exact HB.out | apply below_alloc | apply pw_below_drewN | apply below_drew1) | exact HB.out)⟩⟩
  case rest =>
    clear HC5
    try clear p2
    try clear c6
    try clear c6b0
    try clear c6b1
    obtain ⟨kq, x19_4, rfl, HA, HJ4, HB⟩ := hcut
    cases kq with
    | zero => exact absurd HA.out (by simp [gronx_SegmentChecker_isOffsetDue.j0])
    | succ kj4 =>
      have H := HA.out
      clear HA
      simp only [gronx_SegmentChecker_isOffsetDue.j0] at H
      by_cases c7 : x19_4 = true
      · subst c7
        have H1 : (some (true, none)) = some (r1, r2) := by rw [if_pos rfl] at H; exact H
        clear H
        have H := H1
        clear H1
        simp only [Option.some.injEq, Prod.mk.injEq] at H
        obtain ⟨rfl, rfl⟩ := H
        go_wp2
        go_ret2
        exact ⟨by first | rfl | (simp [errW_none, errW_some] <;> rfl) | (simp [*, errW_none, errW_some] <;> rfl), by repeat (first | (with_reducible first | exact HB.out | apply below_alloc | apply pw_below_drewN | apply below_drew1) | exact HB.out)⟩
      · replace c7 := Bool.eq_false_iff.mpr c7
        subst c7
        have H1 : ((gronx_boundsByPos.f kj4 a3).bind fun t535 => ((gronx_zzContains.f kj4 a1 (⟨#[47]⟩ : ByteArray)).bind fun t538 => (if t538 = true then ((gronx_inStep.f kj4 a2 a1 t535 (a3 == 5)).bind fun bt539 => (some (bt539.1, bt539.2))) else ((gronx_zzContains.f kj4 a1 (⟨#[45]⟩ : ByteArray)).bind fun t541 => (if t541 = true then ((gronx_inRange.f kj4 a2 a1 t535 (a3 == 5)).bind fun bt542 => (some (bt542.1, bt542.2))) else ((strconv_Atoi.f a1).bind fun bt544 => (if bt544.2.isNone = true then (if 0 < (t535.length : Int) then (if bt544.1 < (rd t535 0) then (gronx_SegmentChecker_isOffsetDue.j1 kj4 a2 (a3 == 5) bt544.1 true) else (if 1 < (t535.length : Int) then (gronx_SegmentChecker_isOffsetDue.j1 kj4 a2 (a3 == 5) bt544.1 (decide (bt544.1 > (rd t535 1)))) else (none))) else (none)) else (some (false, some (bt544.2.getD 0)))))))))) = some (r1, r2) := by rw [if_neg (show ¬ (false = true) by decide)] at H; exact H
        clear H
        have H := H1
        clear H1
        replace H := Option.bind_eq_some_iff.mp H
        obtain ⟨t535, A80, H⟩ := H
        replace H : ((gronx_zzContains.f kj4 a1 (⟨#[47]⟩ : ByteArray)).bind fun t538 => (if t538 = true then ((gronx_inStep.f kj4 a2 a1 t535 (a3 == 5)).bind fun bt539 => (some (bt539.1, bt539.2))) else ((gronx_zzContains.f kj4 a1 (⟨#[45]⟩ : ByteArray)).bind fun t541 => (if t541 = true then ((gronx_inRange.f kj4 a2 a1 t535 (a3 == 5)).bind fun bt542 => (some (bt542.1, bt542.2))) else ((strconv_Atoi.f a1).bind fun bt544 => (if bt544.2.isNone = true then (if 0 < (t535.length : Int) then (if bt544.1 < (rd t535 0) then (gronx_SegmentChecker_isOffsetDue.j1 kj4 a2 (a3 == 5) bt544.1 true) else (if 1 < (t535.length : Int) then (gronx_SegmentChecker_isOffsetDue.j1 kj4 a2 (a3 == 5) bt544.1 (decide (bt544.1 > (rd t535 1)))) else (none))) else (none)) else (some (false, some (bt544.2.getD 0))))))))) = some (r1, r2) := H
        have A8 := Aside0.mk A80
        clear A80
        replace H := Option.bind_eq_some_iff.mp H
        obtain ⟨t538, A90, H⟩ := H
        replace H : (if t538 = true then ((gronx_inStep.f kj4 a2 a1 t535 (a3 == 5)).bind fun bt539 => (some (bt539.1, bt539.2))) else ((gronx_zzContains.f kj4 a1 (⟨#[45]⟩ : ByteArray)).bind fun t541 => (if t541 = true then ((gronx_inRange.f kj4 a2 a1 t535 (a3 == 5)).bind fun bt542 => (some (bt542.1, bt542.2))) else ((strconv_Atoi.f a1).bind fun bt544 => (if bt544.2.isNone = true then (if 0 < (t535.length : Int) then (if bt544.1 < (rd t535 0) then (gronx_SegmentChecker_isOffsetDue.j1 kj4 a2 (a3 == 5) bt544.1 true) else (if 1 < (t535.length : Int) then (gronx_SegmentChecker_isOffsetDue.j1 kj4 a2 (a3 == 5) bt544.1 (decide (bt544.1 > (rd t535 1)))) else (none))) else (none)) else (some (false, some (bt544.2.getD 0)))))))) = some (r1, r2) := H
        have A9 := Aside0.mk A90
        clear A90
        by_cases c10 : t538 = true
        · subst c10
          have H1 : ((gronx_inStep.f kj4 a2 a1 t535 (a3 == 5)).bind fun bt539 => (some (bt539.1, bt539.2))) = some (r1, r2) := by rw [if_pos rfl] at H; exact H
          clear H
          have H := H1
          clear H1
          replace H := Option.bind_eq_some_iff.mp H
          obtain ⟨⟨t539, t540⟩, A110, H⟩ := H
          replace H : (some (t539, t540)) = some (r1, r2) := H
          have A11 := Aside0.mk A110
          clear A110
          simp only [Option.some.injEq, Prod.mk.injEq] at H
          obtain ⟨rfl, rfl⟩ := H
          go_wp2_with (first | ((with_reducible refine gate_callee (f := 85) rfl ?_); refine goesL_ (some 21) rfl rfl Tryz.func85 (by kernel_rfl) rfl #[.int .i64 a3] rfl (by (try simp only [List.map_toArray, List.map_cons, List.map_nil]); first | done | rfl | (simp only [List.length_drop, List.length_take]; rfl)) ?_; (with_reducible refine (gronx_boundsByPos.calls kj4 a3 t535 _ A8.out).mono ?_); rintro e w12 ⟨v536, rfl, ho0, hb⟩; refine ⟨_, rfl, ?_⟩; have n0_ := Aside0.mk (Kd.R_lower ho0 (below_size (by repeat (first | (with_reducible first | exact HB.out | apply below_alloc | apply pw_below_drewN | apply below_drew1) | exact HB.out)))); have n1_ := Aside0.mk (below_step (by repeat (first | (with_reducible first | exact HB.out | apply below_alloc | apply pw_below_drewN | apply below_drew1) | exact HB.out)) hb); clear HB; have HO537 := n0_; have HB := n1_; clear n0_ n1_; (try clear hb); (try clear hb2); (try clear hk); (try clear hi); (try clear ho0)) | ((with_reducible refine gate_callee (f := 56) rfl ?_); refine goesL_ (some 25) rfl rfl Tryz.func56 (by kernel_rfl) rfl #[.string a1, .string (⟨#[47]⟩ : ByteArray)] rfl (by (try simp only [List.map_toArray, List.map_cons, List.map_nil]); first | done | rfl | (simp only [List.length_drop, List.length_take]; rfl)) ?_; (with_reducible refine (gronx_zzContains.calls kj4 a1 (⟨#[47]⟩ : ByteArray) true _ A9.out).mono ?_); rintro e w' ⟨rfl, ⟨nd, rfl⟩⟩; refine ⟨_, rfl, ?_⟩; obtain ⟨Ao13, co13, eo13⟩ := Kd.R_slice HO537.out; subst eo13) | ((with_reducible refine gate_callee (f := 86) rfl ?_); refine goesL_ (some 30) rfl rfl Tryz.func86 (by kernel_rfl) rfl #[.int .i64 a2, .string a1, .slice Ao13 t535.length co13, .bool (a3 == 5)] rfl (by (try simp only [List.map_toArray, List.map_cons, List.map_nil]); first | done | rfl | (simp only [List.length_drop, List.length_take]; rfl)) ?_; (with_reducible refine (gronx_inStep.calls kj4 a2 a1 _ _ t535 (a3 == 5) t539 t540 _ ?side1 ?side2 A11.out).mono ?_); (case side1 => repeat (first | exact (Kd.R_reads' HO537.out).2.2 | (with_reducible refine Kd.C_alloc ?_ _) | (with_reducible refine Kd.C_drewN ?_ _) | (with_reducible refine Kd.C_drew ?_))); (case side2 => exact (Kd.R_reads' HO537.out).2.1); rintro e w14 ⟨rfl, hb⟩; refine ⟨_, rfl, ?_⟩; have n0_ := Aside0.mk (Kd.R_below (by (with_reducible repeat (first | apply Kd.R_alloc | apply Kd.R_drewN | apply Kd.R_drew)); exact HO537.out) hb); have n1_ := Aside0.mk (below_step (by repeat (first | (with_reducible first | exact HB.out | apply below_alloc | apply pw_below_drewN | apply below_drew1) | exact HB.out)) hb); clear HO537; clear HB; have HO537 := n0_; have HB := n1_; clear n0_ n1_; (try clear hb); (try clear hb2); (try clear hk); (try clear hi); (try simp only [errW_none, errW_some])))
          go_ret2
          exact ⟨by first | rfl | (simp [errW_none, errW_some] <;> rfl) | (simp [*, errW_none, errW_some] <;> rfl), by repeat (first | (with_reducible first | exact HB.out | apply below_alloc | apply pw_below_drewN | apply below_drew1) | exact HB.out)⟩
        · replace c10 := Bool.eq_false_iff.mpr c10
          subst c10
          have H1 : ((gronx_zzContains.f kj4 a1 (⟨#[45]⟩ : ByteArray)).bind fun t541 => (if t541 = true then ((gronx_inRange.f kj4 a2 a1 t535 (a3 == 5)).bind fun bt542 => (some (bt542.1, bt542.2))) else ((strconv_Atoi.f a1).bind fun bt544 => (if bt544.2.isNone = true then (if 0 < (t535.length : Int) then (if bt544.1 < (rd t535 0) then (gronx_SegmentChecker_isOffsetDue.j1 kj4 a2 (a3 == 5) bt544.1 true) else (if 1 < (t535.length : Int) then (gronx_SegmentChecker_isOffsetDue.j1 kj4 a2 (a3 == 5) bt544.1 (decide (bt544.1 > (rd t535 1)))) else (none))) else (none)) else (some (false, some (bt544.2.getD 0))))))) = some (r1, r2) := by rw [if_neg (show ¬ (false = true) by decide)] at H; exact H
          clear H
          have H := H1
          clear H1
          replace H := Option.bind_eq_some_iff.mp H
          obtain ⟨t541, A150, H⟩ := H
          replace H : (if t541 = true then ((gronx_inRange.f kj4 a2 a1 t535 (a3 == 5)).bind fun bt542 => (some (bt542.1, bt542.2))) else ((strconv_Atoi.f a1).bind fun bt544 => (if bt544.2.isNone = true then (if 0 < (t535.length : Int) then (if bt544.1 < (rd t535 0) then (gronx_SegmentChecker_isOffsetDue.j1 kj4 a2 (a3 == 5) bt544.1 true) else (if 1 < (t535.length : Int) then (gronx_SegmentChecker_isOffsetDue.j1 kj4 a2 (a3 == 5) bt544.1 (decide (bt544.1 > (rd t535 1)))) else (none))) else (none)) else (some (false, some (bt544.2.getD 0)))))) = some (r1, r2) := H
          have A15 := Aside0.mk A150
          clear A150
          by_cases c16 : t541 = true
          · subst c16
            have H1 : ((gronx_inRange.f kj4 a2 a1 t535 (a3 == 5)).bind fun bt542 => (some (bt542.1, bt542.2))) = some (r1, r2) := by rw [if_pos rfl] at H; exact H
            clear H
            have H := H1
            clear H1
            replace H := Option.bind_eq_some_iff.mp H
            obtain ⟨⟨t542, t543⟩, A170, H⟩ := H
            replace H : (some (t542, t543)) = some (r1, r2) := H
            have A17 := Aside0.mk A170
            clear A170
            simp only [Option.some.injEq, Prod.mk.injEq] at H
            obtain ⟨rfl, rfl⟩ := H
            go_wp2_with (first | ((with_reducible refine gate_callee (f := 85) rfl ?_); refine goesL_ (some 21) rfl rfl Tryz.func85 (by kernel_rfl) rfl #[.int .i64 a3] rfl (by (try simp only [List.map_toArray, List.map_cons, List.map_nil]); first | done | rfl | (simp only [List.length_drop, List.length_take]; rfl)) ?_; (with_reducible refine (gronx_boundsByPos.calls kj4 a3 t535 _ A8.out).mono ?_); rintro e w18 ⟨v536, rfl, ho0, hb⟩; refine ⟨_, rfl, ?_⟩; have n0_ := Aside0.mk (Kd.R_lower ho0 (below_size (by repeat (first | (with_reducible first | exact HB.out | apply below_alloc | apply pw_below_drewN | apply below_drew1) | exact HB.out)))); have n1_ := Aside0.mk (below_step (by repeat (first | (with_reducible first | exact HB.out | apply below_alloc | apply pw_below_drewN | apply below_drew1) | exact HB.out)) hb); clear HB; have HO537 := n0_; have HB := n1_; clear n0_ n1_; (try clear hb); (try clear hb2); (try clear hk); (try clear hi); (try clear ho0)) | ((with_reducible refine gate_callee (f := 56) rfl ?_); refine goesL_ (some 25) rfl rfl Tryz.func56 (by kernel_rfl) rfl #[.string a1, .string (⟨#[47]⟩ : ByteArray)] rfl (by (try simp only [List.map_toArray, List.map_cons, List.map_nil]); first | done | rfl | (simp only [List.length_drop, List.length_take]; rfl)) ?_; (with_reducible refine (gronx_zzContains.calls kj4 a1 (⟨#[47]⟩ : ByteArray) false _ A9.out).mono ?_); rintro e w' ⟨rfl, ⟨nd, rfl⟩⟩; refine ⟨_, rfl, ?_⟩) | ((with_reducible refine gate_callee (f := 56) rfl ?_); refine goesL_ (some 34) rfl rfl Tryz.func56 (by kernel_rfl) rfl #[.string a1, .string (⟨#[45]⟩ : ByteArray)] rfl (by (try simp only [List.map_toArray, List.map_cons, List.map_nil]); first | done | rfl | (simp only [List.length_drop, List.length_take]; rfl)) ?_; (with_reducible refine (gronx_zzContains.calls kj4 a1 (⟨#[45]⟩ : ByteArray) true _ A15.out).mono ?_); rintro e w' ⟨rfl, ⟨nd, rfl⟩⟩; refine ⟨_, rfl, ?_⟩; obtain ⟨Ao19, co19, eo19⟩ := Kd.R_slice HO537.out; subst eo19) | ((with_reducible refine gate_callee (f := 87) rfl ?_); refine goesL_ (some 39) rfl rfl Tryz.func87 (by kernel_rfl) rfl #[.int .i64 a2, .string a1, .slice Ao19 t535.length co19, .bool (a3 == 5)] rfl (by (try simp only [List.map_toArray, List.map_cons, List.map_nil]); first | done | rfl | (simp only [List.length_drop, List.length_take]; rfl)) ?_; (with_reducible refine (gronx_inRange.calls kj4 a2 a1 _ _ t535 (a3 == 5) t542 t543 _ ?side1 ?side2 A17.out).mono ?_); (case side1 => repeat (first | exact (Kd.R_reads' HO537.out).2.2 | (with_reducible refine Kd.C_alloc ?_ _) | (with_reducible refine Kd.C_drewN ?_ _) | (with_reducible refine Kd.C_drew ?_))); (case side2 => exact (Kd.R_reads' HO537.out).2.1); rintro e w20 ⟨rfl, hb⟩; refine ⟨_, rfl, ?_⟩; have n0_ := Aside0.mk (Kd.R_below (by (with_reducible repeat (first | apply Kd.R_alloc | apply Kd.R_drewN | apply Kd.R_drew)); exact HO537.out) hb); have n1_ := Aside0.mk (below_step (by repeat (first | (with_reducible first | exact HB.out | apply below_alloc | apply pw_below_drewN | apply below_drew1) | exact HB.out)) hb); clear HO537; clear HB; have HO537 := n0_; have HB := n1_; clear n0_ n1_; (try clear hb); (try clear hb2); (try clear hk); (try clear hi); (try simp only [errW_none, errW_some])))
            go_ret2
            exact ⟨by first | rfl | (simp [errW_none, errW_some] <;> rfl) | (simp [*, errW_none, errW_some] <;> rfl), by repeat (first | (with_reducible first | exact HB.out | apply below_alloc | apply pw_below_drewN | apply below_drew1) | exact HB.out)⟩
          · replace c16 := Bool.eq_false_iff.mpr c16
            subst c16
            have H1 : ((strconv_Atoi.f a1).bind fun bt544 => (if bt544.2.isNone = true then (if 0 < (t535.length : Int) then (if bt544.1 < (rd t535 0) then (gronx_SegmentChecker_isOffsetDue.j1 kj4 a2 (a3 == 5) bt544.1 true) else (if 1 < (t535.length : Int) then (gronx_SegmentChecker_isOffsetDue.j1 kj4 a2 (a3 == 5) bt544.1 (decide (bt544.1 > (rd t535 1)))) else (none))) else (none)) else (some (false, some (bt544.2.getD 0))))) = some (r1, r2) := by rw [if_neg (show ¬ (false = true) by decide)] at H; exact H
            clear H
            have H := H1
            clear H1
            replace H := Option.bind_eq_some_iff.mp H
            obtain ⟨⟨t544, t545⟩, A210, H⟩ := H
            replace H : (if t545.isNone = true then (if 0 < (t535.length : Int) then (if t544 < (rd t535 0) then (gronx_SegmentChecker_isOffsetDue.j1 kj4 a2 (a3 == 5) t544 true) else (if 1 < (t535.length : Int) then (gronx_SegmentChecker_isOffsetDue.j1 kj4 a2 (a3 == 5) t544 (decide (t544 > (rd t535 1)))) else (none))) else (none)) else (some (false, some (t545.getD 0)))) = some (r1, r2) := H
            have A21 := Aside0.mk A210
            clear A210
            rcases t545 with _ | q546
            · have H1 : (if 0 < (t535.length : Int) then (if t544 < (rd t535 0) then (gronx_SegmentChecker_isOffsetDue.j1 kj4 a2 (a3 == 5) t544 true) else (if 1 < (t535.length : Int) then (gronx_SegmentChecker_isOffsetDue.j1 kj4 a2 (a3 == 5) t544 (decide (t544 > (rd t535 1)))) else (none))) else (none)) = some (r1, r2) := by rw [if_pos (show (none : Option Int).isNone = true by rfl)] at H; exact H
              clear H
              have H := H1
              clear H1
              try simp only [errW_none, errW_some]
              have HC22 := Aside0.mk H
              clear H
              go_upto_region 11 with (first | ((with_reducible refine gate_callee (f := 85) rfl ?_); refine goesL_ (some 21) rfl rfl Tryz.func85 (by kernel_rfl) rfl #[.int .i64 a3] rfl (by (try simp only [List.map_toArray, List.map_cons, List.map_nil]); first | done | rfl | (simp only [List.length_drop, List.length_take]; rfl)) ?_; (with_reducible refine (gronx_boundsByPos.calls kj4 a3 t535 _ A8.out).mono ?_); rintro e w23 ⟨v536, rfl, ho0, hb⟩; refine ⟨_, rfl, ?_⟩; have n0_ := Aside0.mk (Kd.R_lower ho0 (below_size (by repeat (first | (with_reducible first | exact HB.out | apply below_alloc | apply pw_below_drewN | apply below_drew1) | exact HB.out)))); have n1_ := Aside0.mk (below_step (by repeat (first | (with_reducible first | exact HB.out | apply below_alloc | apply pw_below_drewN | apply below_drew1) | exact HB.out)) hb); clear HB; have HO537 := n0_; have HB := n1_; clear n0_ n1_; (try clear hb); (try clear hb2); (try clear hk); (try clear hi); (try clear ho0)) | ((with_reducible refine gate_callee (f := 56) rfl ?_); refine goesL_ (some 25) rfl rfl Tryz.func56 (by kernel_rfl) rfl #[.string a1, .string (⟨#[47]⟩ : ByteArray)] rfl (by (try simp only [List.map_toArray, List.map_cons, List.map_nil]); first | done | rfl | (simp only [List.length_drop, List.length_take]; rfl)) ?_; (with_reducible refine (gronx_zzContains.calls kj4 a1 (⟨#[47]⟩ : ByteArray) false _ A9.out).mono ?_); rintro e w' ⟨rfl, ⟨nd, rfl⟩⟩; refine ⟨_, rfl, ?_⟩) | ((with_reducible refine gate_callee (f := 56) rfl ?_); refine goesL_ (some 34) rfl rfl Tryz.func56 (by kernel_rfl) rfl #[.string a1, .string (⟨#[45]⟩ : ByteArray)] rfl (by (try simp only [List.map_toArray, List.map_cons, List.map_nil]); first | done | rfl | (simp only [List.length_drop, List.length_take]; rfl)) ?_; (with_reducible refine (gronx_zzContains.calls kj4 a1 (⟨#[45]⟩ : ByteArray) false _ A15.out).mono ?_); rintro e w' ⟨rfl, ⟨nd, rfl⟩⟩; refine ⟨_, rfl, ?_⟩) | ((with_reducible refine gate_callee (f := 88) rfl ?_); refine goesL_ (some 44) rfl rfl Tryz.func88 (by kernel_rfl) rfl #[.string a1] rfl (by (try simp only [List.map_toArray, List.map_cons, List.map_nil]); first | done | rfl | (simp only [List.length_drop, List.length_take]; rfl)) ?_; (with_reducible refine (strconv_Atoi.calls a1 t544 none _ A21.out).mono ?_); rintro e w24 ⟨rfl, hb⟩; refine ⟨_, rfl, ?_⟩; have n0_ := Aside0.mk (Kd.R_below (by (with_reducible repeat (first | apply Kd.R_alloc | apply Kd.R_drewN | apply Kd.R_drew)); exact HO537.out) hb); have n1_ := Aside0.mk (below_step (by repeat (first | (with_reducible first | exact HB.out | apply below_alloc | apply pw_below_drewN | apply below_drew1) | exact HB.out)) hb); clear HO537; clear HB; have HO537 := n0_; have HB := n1_; clear n0_ n1_; (try clear hb); (try clear hb2); (try clear hk); (try clear hi); (try simp only [errW_none, errW_some])))
              (try simp only [Act.put, List.setIfInBounds_toArray, List.set_cons_zero, List.set_cons_succ])
              go_cut [61] (fun v61 wc => ∃ (kq : Nat) (x61_21 : Bool), v61 = .bool x61_21 ∧ Aside0 (gronx_SegmentChecker_isOffsetDue.j1 kq a2 (a3 == 5) t544 x61_21 = some (r1, r2)) ∧ Aside0 (kq ≤ kj4) ∧ Aside0 (Below w.heap.size w wc))
              case first =>
                have H := HC22.out
                clear HC22
                by_cases c25 : 0 < (t535.length : Int)
                · rw [if_pos c25] at H
                  have c25b0 : decide (0 < (t535.length : Int)) = true := decide_eq_true c25
                  have c25b1 : decide (0 < t535.length) = true := decide_eq_true (by omega)
                  clear c25
                  (first | rw [c25b0] | (simp only [i64_w, i32_w]; rw [c25b0]) | skip)
                  by_cases c26 : t544 < (rd t535 0)
                  · rw [if_pos c26] at H
                    have c26b0 : decide (t544 < (rd t535 0)) = true := decide_eq_true c26
                    clear c26
                    have H' := Aside0.mk H
                    clear H
                    obtain ⟨Ao27, co27, eo27⟩ := Kd.R_slice HO537.out
                    subst eo27
                    have p547 : 0 ≤ (0 : Int) := (by omega)
                    have q547 : 0 < (t535.length : Int) := of_decide_eq_true (by first | (with_reducible assumption) | assumption)
                    obtain ⟨ad547, e547, hx547_0⟩ := Kd.at_int (Kd.R_reads' HO537.out).2.2 0 p547 q547
                    cases e547
                    have qi547 : (0 < t535.length) = True := eq_true (by omega)
                    (try rw [show ((0 : Int)).toNat = 0 from rfl] at hx547_0)
                    (try rw [Addr.add_zero'] at hx547_0)
                    replace p547 := eq_true p547
                    replace q547 := eq_true q547
                    go_wp2
                    go_meet
                    case rel => exact ⟨_, (true), (by first | rfl | (simp; done) | (simp [*]; done)), H', ⟨by have := HJ4.out; first | omega | exact Nat.le_refl _⟩, ⟨by repeat (first | (with_reducible first | exact HB.out | apply below_alloc | apply pw_below_drewN | apply below_drew1) | exact HB.out)⟩⟩
                  · rw [if_neg c26] at H
                    have c26b0 : decide (t544 < (rd t535 0)) = false := decide_eq_false c26
                    clear c26
                    by_cases c28 : 1 < (t535.length : Int)
                    · rw [if_pos c28] at H
                      have c28b0 : decide (1 < (t535.length : Int)) = true := decide_eq_true c28
                      have c28b1 : decide (1 < t535.length) = true := decide_eq_true (by omega)
                      clear c28
                      have H' := Aside0.mk H
                      clear H
                      obtain ⟨Ao29, co29, eo29⟩ := Kd.R_slice HO537.out
                      subst eo29
                      have p547 : 0 ≤ (0 : Int) := (by omega)
                      have q547 : 0 < (t535.length : Int) := of_decide_eq_true (by first | (with_reducible assumption) | assumption)
                      obtain ⟨ad547, e547, hx547_0⟩ := Kd.at_int (Kd.R_reads' HO537.out).2.2 0 p547 q547
                      cases e547
                      have qi547 : (0 < t535.length) = True := eq_true (by omega)
                      (try rw [show ((0 : Int)).toNat = 0 from rfl] at hx547_0)
                      (try rw [Addr.add_zero'] at hx547_0)
                      replace p547 := eq_true p547
                      replace q547 := eq_true q547
                      have p548 : 0 ≤ (1 : Int) := (by omega)
                      have q548 : 1 < (t535.length : Int) := of_decide_eq_true (by first | (with_reducible assumption) | assumption)
                      obtain ⟨ad548, e548, hx548_0⟩ := Kd.at_int (Kd.R_reads' HO537.out).2.2 1 p548 q548
                      obtain rfl : ad547 = ad548 := (by injection e548)
                      (try simp only [show (1 : Int).toNat = 1 from rfl, Nat.reduceMul, Nat.reduceEqDiff, Go.Addr.add, ↓reduceIte] at hx548_0)
                      have qi548 : (1 < t535.length) = True := eq_true (by omega)
                      (try rw [show ((1 : Int)).toNat = 1 from rfl] at hx548_0)
                      replace p548 := eq_true p548
                      replace q548 := eq_true q548
                      go_wp2
                      go_meet
                      case rel => exact ⟨_, (decide (t544 > (rd t535 1))), (by first | rfl | (simp; done) | (simp [*]; done)), H', ⟨by have := HJ4.out; first | omega | exact Nat.le_refl _⟩, ⟨by repeat (first | (with_reducible first | exact HB.out | apply below_alloc | apply pw_below_drewN | apply below_drew1) | exact HB.out)⟩⟩
                    · rw [if_neg c28] at H
                      exact absurd H (by simp)
                · rw [if_neg c25] at H
                  exact absurd H (by simp)
              case rest =>
                clear HC22
                try clear c1
                try clear c2
                try clear p2
                try clear c5
                try clear p5
                try clear q5
                try clear hx5
                try clear qi5
                try clear c6
                try clear c6b0
                try clear c6b1
                try clear c7
                try clear c8
                try clear c10
                try clear c16
                try clear c25
                try clear c25b0
                try clear c25b1
                try clear c26
                try clear c26b0
                try clear c28
                try clear c28b0
                try clear c28b1
                try clear hx547_0
                try clear hx548_0
                try clear p2
                try clear p547
                try clear p548
                try clear q546
                try clear q547
                try clear q548
                obtain ⟨kq, x61_21, rfl, HA, HJ21, HB⟩ := hcut
                cases kq with
                | zero => exact absurd HA.out (by simp [gronx_SegmentChecker_isOffsetDue.j1])
                | succ kj21 =>
                  have H := HA.out
                  clear HA
                  simp only [gronx_SegmentChecker_isOffsetDue.j1] at H
                  by_cases c30 : x61_21 = true
                  · subst c30
                    have H1 : ((errors_New.f (⟨#[115, 101, 103, 109, 101, 110, 116, 35, 58, 32, 111, 117, 116, 32, 111, 102, 32, 98, 111, 117, 110, 100, 115, 40, 44, 32, 41]⟩ : ByteArray)).bind fun t549 => (some (false, t549))) = some (r1, r2) := by rw [if_pos rfl] at H; exact H
                    clear H
                    have H := H1
                    clear H1
                    replace H := Option.bind_eq_some_iff.mp H
                    obtain ⟨t549, A310, H⟩ := H
                    replace H : (some (false, t549)) = some (r1, r2) := H
                    have A31 := Aside0.mk A310
                    clear A310
                    simp only [Option.some.injEq, Prod.mk.injEq] at H
                    obtain ⟨rfl, rfl⟩ := H
                    go_wp2_with (first | ((with_reducible refine gate_callee (f := 51) rfl ?_); refine goesL_ (some 62) rfl rfl Tryz.func51 (by kernel_rfl) rfl #[.string (⟨#[115, 101, 103, 109, 101, 110, 116, 35, 58, 32, 111, 117, 116, 32, 111, 102, 32, 98, 111, 117, 110, 100, 115, 40, 44, 32, 41]⟩ : ByteArray)] rfl (by (try simp only [List.map_toArray, List.map_cons, List.map_nil]); first | done | rfl | (simp only [List.length_drop, List.length_take]; rfl)) ?_; (with_reducible refine (errors_New.calls (⟨#[115, 101, 103, 109, 101, 110, 116, 35, 58, 32, 111, 117, 116, 32, 111, 102, 32, 98, 111, 117, 110, 100, 115, 40, 44, 32, 41]⟩ : ByteArray) t549 _ A31.out).mono ?_); rintro e w32 ⟨rfl, hb⟩; refine ⟨_, rfl, ?_⟩; have n0_ := Aside0.mk (below_step (by repeat (first | (with_reducible first | exact HB.out | apply below_alloc | apply pw_below_drewN | apply below_drew1) | exact HB.out)) hb); clear HB; have HB := n0_; clear n0_; (try clear hb); (try clear hb2); (try clear hk); (try clear hi); (try simp only [errW_none, errW_some])))
                    go_ret2
                    exact ⟨by first | rfl | (simp [errW_none, errW_some] <;> rfl) | (simp [*, errW_none, errW_some] <;> rfl), by repeat (first | (with_reducible first | exact HB.out | apply below_alloc | apply pw_below_drewN | apply below_drew1) | exact HB.out)⟩
                  · replace c30 := Bool.eq_false_iff.mpr c30
                    subst c30
                    have H1 : (if (a3 == 5) = true then (if t544 = a2 then (some (true, none)) else (if t544 = 7 then (some ((a2 == 0), none)) else (some (false, none)))) else (if a2 = 0 then (if t544 = 0 then (some ((a2 == 0), none)) else (some (false, none))) else (if t544 = 0 then (some ((a2 == 0), none)) else (if t544 = a2 then (some (true, none)) else (some (false, none)))))) = some (r1, r2) := by rw [if_neg (show ¬ (false = true) by decide)] at H; exact H
                    clear H
                    have H := H1
                    clear H1
                    by_cases c33 : (a3 == 5) = true
                    · rw [if_pos c33] at H
                      have c33b0 : (a3 == 5) = true := c33
                      (try (have c33b1 : decide (a3 = 5) = true := by simpa using c33))
                      (try (have c33b2 : (a3 == 5) = true := by simpa using c33))
                      clear c33
                      by_cases c34 : t544 = a2
                      · rw [if_pos c34] at H
                        have c34b0 : (t544 == a2) = true := beq_iff_eq.mpr c34
                        have c34b1 : (t544 != a2) = false := bne_eq_false_iff_eq.mpr c34
                        clear c34
                        simp only [Option.some.injEq, Prod.mk.injEq] at H
                        obtain ⟨rfl, rfl⟩ := H
                        go_wp2
                        go_ret2
                        exact ⟨by first | rfl | (simp [errW_none, errW_some] <;> rfl) | (simp [*, errW_none, errW_some] <;> rfl), by repeat (first | (with_reducible first | exact HB.out | apply below_alloc | apply pw_below_drewN | apply below_drew1) | exact HB.out)⟩
                      · rw [if_neg c34] at H
                        have c34b0 : (t544 == a2) = false := beq_eq_false_iff_ne.mpr c34
                        have c34b1 : (t544 != a2) = true := bne_iff_ne.mpr c34
                        by_cases c35 : t544 = 7
                        · rw [if_pos c35] at H
                          have c35b0 : (t544 == 7) = true := beq_iff_eq.mpr c35
                          have c35b1 : (t544 != 7) = false := bne_eq_false_iff_eq.mpr c35
                          clear c35
                          simp only [Option.some.injEq, Prod.mk.injEq] at H
                          obtain ⟨rfl, rfl⟩ := H
                          go_wp2
                          go_ret2
                          exact ⟨by first | rfl | (simp [errW_none, errW_some] <;> rfl) | (simp [*, errW_none, errW_some] <;> rfl), by repeat (first | (with_reducible first | exact HB.out | apply below_alloc | apply pw_below_drewN | apply below_drew1) | exact HB.out)⟩
                        · rw [if_neg c35] at H
                          have c35b0 : (t544 == 7) = false := beq_eq_false_iff_ne.mpr c35
                          have c35b1 : (t544 != 7) = true := bne_iff_ne.mpr c35
                          simp only [Option.some.injEq, Prod.mk.injEq] at H
                          obtain ⟨rfl, rfl⟩ := H
                          go_wp2
                          go_ret2
                          exact ⟨by first | rfl | (simp [errW_none, errW_some] <;> rfl) | (simp [*, errW_none, errW_some] <;> rfl), by repeat (first | (with_reducible first | exact HB.out | apply below_alloc | apply pw_below_drewN | apply below_drew1) | exact HB.out)⟩
                    · rw [if_neg c33] at H
                      have c33b0 : (a3 == 5) = false := by simpa using c33
                      (try (have c33b1 : decide (a3 = 5) = false := by simpa using c33))
                      (try (have c33b2 : (a3 == 5) = false := by simpa using c33))
                      (try (have c33b3 : ¬ (a3 = 5) := by simpa using c33))
                      clear c33
                      by_cases c36 : a2 = 0
                      · rw [if_pos c36] at H
                        have c36b0 : (a2 == 0) = true := beq_iff_eq.mpr c36
                        have c36b1 : (a2 != 0) = false := bne_eq_false_iff_eq.mpr c36
                        clear c36
                        by_cases c37 : t544 = 0
                        · rw [if_pos c37] at H
                          have c37b0 : (t544 == 0) = true := beq_iff_eq.mpr c37
                          have c37b1 : (t544 != 0) = false := bne_eq_false_iff_eq.mpr c37
                          clear c37
                          simp only [Option.some.injEq, Prod.mk.injEq] at H
                          obtain ⟨rfl, rfl⟩ := H
                          go_wp2
                          go_ret2
                          exact ⟨by first | rfl | (simp [errW_none, errW_some] <;> rfl) | (simp [*, errW_none, errW_some] <;> rfl), by repeat (first | (with_reducible first | exact HB.out | apply below_alloc | apply pw_below_drewN | apply below_drew1) | exact HB.out)⟩
                        · rw [if_neg c37] at H
                          have c37b0 : (t544 == 0) = false := beq_eq_false_iff_ne.mpr c37
                          have c37b1 : (t544 != 0) = true := bne_iff_ne.mpr c37
                          simp only [Option.some.injEq, Prod.mk.injEq] at H
                          obtain ⟨rfl, rfl⟩ := H
                          go_wp2
                          go_ret2
                          exact ⟨by first | rfl | (simp [errW_none, errW_some] <;> rfl) | (simp [*, errW_none, errW_some] <;> rfl), by repeat (first | (with_reducible first | exact HB.out | apply below_alloc | apply pw_below_drewN | apply below_drew1) | exact HB.out)⟩
                      · rw [if_neg c36] at H
                        have c36b0 : (a2 == 0) = false := beq_eq_false_iff_ne.mpr c36
                        have c36b1 : (a2 != 0) = true := bne_iff_ne.mpr c36
                        by_cases c38 : t544 = 0
                        · rw [if_pos c38] at H
                          have c38b0 : (t544 == 0) = true := beq_iff_eq.mpr c38
                          have c38b1 : (t544 != 0) = false := bne_eq_false_iff_eq.mpr c38
                          clear c38
                          simp only [Option.some.injEq, Prod.mk.injEq] at H
                          obtain ⟨rfl, rfl⟩ := H
                          go_wp2
                          go_ret2
                          exact ⟨by first | rfl | (simp [errW_none, errW_some] <;> rfl) | (simp [*, errW_none, errW_some] <;> rfl), by repeat (first | (with_reducible first | exact HB.out | apply below_alloc | apply pw_below_drewN | apply below_drew1) | exact HB.out)⟩
                        · rw [if_neg c38] at H
                          have c38b0 : (t544 == 0) = false := beq_eq_false_iff_ne.mpr c38
                          have c38b1 : (t544 != 0) = true := bne_iff_ne.mpr c38
                          by_cases c39 : t544 = a2
                          · rw [if_pos c39] at H
                            have c39b0 : (t544 == a2) = true := beq_iff_eq.mpr c39
                            have c39b1 : (t544 != a2) = false := bne_eq_false_iff_eq.mpr c39
                            clear c39
                            simp only [Option.some.injEq, Prod.mk.injEq] at H
                            obtain ⟨rfl, rfl⟩ := H
                            go_wp2
                            go_ret2
                            exact ⟨by first | rfl | (simp [errW_none, errW_some] <;> rfl) | (simp [*, errW_none, errW_some] <;> rfl), by repeat (first | (with_reducible first | exact HB.out | apply below_alloc | apply pw_below_drewN | apply below_drew1) | exact HB.out)⟩
                          · rw [if_neg c39] at H
                            have c39b0 : (t544 == a2) = false := beq_eq_false_iff_ne.mpr c39
                            have c39b1 : (t544 != a2) = true := bne_iff_ne.mpr c39
                            simp only [Option.some.injEq, Prod.mk.injEq] at H
                            obtain ⟨rfl, rfl⟩ := H
                            go_wp2
                            go_ret2
                            exact ⟨by first | rfl | (simp [errW_none, errW_some] <;> rfl) | (simp [*, errW_none, errW_some] <;> rfl), by repeat (first | (with_reducible first | exact HB.out | apply below_alloc | apply pw_below_drewN | apply below_drew1) | exact HB.out)⟩
            · have H1 : (some (false, some q546)) = some (r1, r2) := by rw [if_neg (show ¬ (some q546).isNone = true by simp)] at H; exact H
              clear H
              have H := H1
              clear H1
              try simp only [errW_none, errW_some]
              simp only [Option.some.injEq, Prod.mk.injEq] at H
              obtain ⟨rfl, rfl⟩ := H
              go_wp2_with (first | ((with_reducible refine gate_callee (f := 85) rfl ?_); refine goesL_ (some 21) rfl rfl Tryz.func85 (by kernel_rfl) rfl #[.int .i64 a3] rfl (by (try simp only [List.map_toArray, List.map_cons, List.map_nil]); first | done | rfl | (simp only [List.length_drop, List.length_take]; rfl)) ?_; (with_reducible refine (gronx_boundsByPos.calls kj4 a3 t535 _ A8.out).mono ?_); rintro e w40 ⟨v536, rfl, ho0, hb⟩; refine ⟨_, rfl, ?_⟩; have n0_ := Aside0.mk (Kd.R_lower ho0 (below_size (by repeat (first | (with_reducible first | exact HB.out | apply below_alloc | apply pw_below_drewN | apply below_drew1) | exact HB.out)))); have n1_ := Aside0.mk (below_step (by repeat (first | (with_reducible first | exact HB.out | apply below_alloc | apply pw_below_drewN | apply below_drew1) | exact HB.out)) hb); clear HB; have HO537 := n0_; have HB := n1_; clear n0_ n1_; (try clear hb); (try clear hb2); (try clear hk); (try clear hi); (try clear ho0)) | ((with_reducible refine gate_callee (f := 56) rfl ?_); refine goesL_ (some 25) rfl rfl Tryz.func56 (by kernel_rfl) rfl #[.string a1, .string (⟨#[47]⟩ : ByteArray)] rfl (by (try simp only [List.map_toArray, List.map_cons, List.map_nil]); first | done | rfl | (simp only [List.length_drop, List.length_take]; rfl)) ?_; (with_reducible refine (gronx_zzContains.calls kj4 a1 (⟨#[47]⟩ : ByteArray) false _ A9.out).mono ?_); rintro e w' ⟨rfl, ⟨nd, rfl⟩⟩; refine ⟨_, rfl, ?_⟩) | ((with_reducible refine gate_callee (f := 56) rfl ?_); refine goesL_ (some 34) rfl rfl Tryz.func56 (by kernel_rfl) rfl #[.string a1, .string (⟨#[45]⟩ : ByteArray)] rfl (by (try simp only [List.map_toArray, List.map_cons, List.map_nil]); first | done | rfl | (simp only [List.length_drop, List.length_take]; rfl)) ?_; (with_reducible refine (gronx_zzContains.calls kj4 a1 (⟨#[45]⟩ : ByteArray) false _ A15.out).mono ?_); rintro e w' ⟨rfl, ⟨nd, rfl⟩⟩; refine ⟨_, rfl, ?_⟩) | ((with_reducible refine gate_callee (f := 88) rfl ?_); refine goesL_ (some 44) rfl rfl Tryz.func88 (by kernel_rfl) rfl #[.string a1] rfl (by (try simp only [List.map_toArray, List.map_cons, List.map_nil]); first | done | rfl | (simp only [List.length_drop, List.length_take]; rfl)) ?_; (with_reducible refine (strconv_Atoi.calls a1 t544 (some q546) _ A21.out).mono ?_); rintro e w41 ⟨rfl, hb⟩; refine ⟨_, rfl, ?_⟩; have n0_ := Aside0.mk (Kd.R_below (by (with_reducible repeat (first | apply Kd.R_alloc | apply Kd.R_drewN | apply Kd.R_drew)); exact HO537.out) hb); have n1_ := Aside0.mk (below_step (by repeat (first | (with_reducible first | exact HB.out | apply below_alloc | apply pw_below_drewN | apply below_drew1) | exact HB.out)) hb); clear HO537; clear HB; have HO537 := n0_; have HB := n1_; clear n0_ n1_; (try clear hb); (try clear hb2); (try clear hk); (try clear hi); (try simp only [errW_none, errW_some])))
              go_ret2
              exact ⟨by first | rfl | (simp [errW_none, errW_some] <;> rfl) | (simp [*, errW_none, errW_some] <;> rfl), by repeat (first | (with_reducible first | exact HB.out | apply below_alloc | apply pw_below_drewN | apply below_drew1) | exact HB.out)⟩
end Go.Proofs.YtkhgeonlohafgaaGreatDoor.Core
namespace Go.Proofs.YtkhgeonlohafgaaGreatDoor.Core
open Go.RowKit Go.Proofs.YtkhgeonlohafgaaGreatDoorW.PrintWords Go.Proofs.YtkhgeonlohafgaaGreatDoorW.PrintLast Go.Proofs.YtkhgeonlohafgaaGreatDoorW.PrintMore
attribute [local go_sem] max2_int min2_int max_two min_two max_three min_three max_four min_four   -- for this text's walks alone
set_option linter.unusedVariables false
set_option linter.unusedSimpArgs false
def gronx_zzReplaceAll.l0 : Nat → ByteArray → ByteArray → ByteArray → List Int → Option (ByteArray)
  | 0, _, _, _, _ => none
  | k + 1, x0, x1, x2, x7 => (gronx_zzIndex.f k x0 x1).bind fun t218 => (if t218 < 0 then (if x7.length + x0.size < 140737488355328 then (some (strOfNums (x7 ++ bytesOf x0))) else (none)) else (if 0 ≤ t218 then (if t218 ≤ (x0.size : Int) then (if x7.length + (x0.extract 0 (t218 : Int).toNat).size < 140737488355328 then ((some (x7 ++ bytesOf (x0.extract 0 (t218 : Int).toNat) : List Int)).bind fun y222 => (if y222.length + x2.size < 140737488355328 then (if 0 ≤ (wrap64 (t218 + (x1.size : Int))) then (if (wrap64 (t218 + (x1.size : Int))) ≤ (x0.size : Int) then (gronx_zzReplaceAll.l0 k (x0.extract ((wrap64 (t218 + (x1.size : Int))) : Int).toNat x0.size) x1 x2 (y222 ++ bytesOf x2)) else (none)) else (none)) else (none))) else (none)) else (none)) else (none)))
def gronx_zzReplaceAll.f (k : Nat) (a0 : ByteArray) (a1 : ByteArray) (a2 : ByteArray) : Option (ByteArray) := gronx_zzReplaceAll.l0 k a0 a1 a2 ([] : List Int)
theorem gronx_zzReplaceAll.mono_l : ∀ k, (∀ y0 y1 y2 y3, LeO (gronx_zzReplaceAll.l0 k y0 y1 y2 y3) (gronx_zzReplaceAll.l0 (k + 1) y0 y1 y2 y3))
  | 0 => fun _ _ _ _ r h => by simp [gronx_zzReplaceAll.l0] at h
  | k + 1 => by
    have ih0 := gronx_zzReplaceAll.mono_l k
    · intro y0 y1 y2 y3
      unfold gronx_zzReplaceAll.l0
      repeat' first
      | (with_reducible exact ih0 _ _ _ _)
      | (with_reducible exact gronx_zzIndex.mono _ _ _)
      | (with_reducible exact LeO.refl _)
      | (with_reducible exact LeO.none _)
      | (with_reducible refine LeO.ite ?_ ?_)
      | (with_reducible refine LeO.bind ?_ (fun _ => ?_))
      | exact ih0 _ _ _ _
      | exact gronx_zzIndex.mono _ _ _
      | exact LeO.none _
      | refine LeO.ite ?_ ?_
      | refine LeO.bind ?_ (fun _ => ?_)
theorem gronx_zzReplaceAll.mono : ∀ a0 a1 a2 k, LeO (gronx_zzReplaceAll.f k a0 a1 a2) (gronx_zzReplaceAll.f (k + 1) a0 a1 a2) := by
  intro a0 a1 a2 k
  have ih0 := gronx_zzReplaceAll.mono_l k
  unfold gronx_zzReplaceAll.f
  repeat' first
      | (with_reducible exact ih0 _ _ _ _)
      | (with_reducible exact gronx_zzIndex.mono _ _ _)
      | (with_reducible exact LeO.refl _)
      | (with_reducible exact LeO.none _)
      | (with_reducible refine LeO.ite ?_ ?_)
      | (with_reducible refine LeO.bind ?_ (fun _ => ?_))
      | exact ih0 _ _ _ _
      | exact gronx_zzIndex.mono _ _ _
      | exact LeO.none _
      | refine LeO.ite ?_ ?_
      | refine LeO.bind ?_ (fun _ => ?_)
set_option maxHeartbeats 8000000 in
set_option maxRecDepth 100000 in
theorem gronx_zzReplaceAll.calls (k : Nat) (a0 : ByteArray) (a1 : ByteArray) (a2 : ByteArray) (r : ByteArray) (w : World) (h : gronx_zzReplaceAll.f k a0 a1 a2 = some r) :
    Calls Tryz.prog 79 #[.string a0, .string a1, .string a2] w fun e w' => e = .returned (.string r) ∧ Below w.heap.size w w' := by
  have HB := Aside0.mk (Below.refl w.heap.size w)
  have H : (gronx_zzReplaceAll.l0 k a0 a1 a2 ([] : List Int)) = some r := h
  clear h
  have H' := Aside0.mk H
  clear H
  go_enter Tryz.func79, Tryz.ntmps79
  go_wp2
  go_loopg [0, 7] k (fun kq v0 v7 w' => ∃ (x0_1 : ByteArray) (x7_1 : List Int), v0 = .string x0_1 ∧ Aside0 (gronx_zzReplaceAll.l0 kq x0_1 a1 a2 x7_1 = some r) ∧ Aside0 (kq ≤ k) ∧ Aside0 (Kd.R (Kd.int .u8) 5 w' w.heap.size (fun _ => True) v7 x7_1) ∧ Aside0 (Below w.heap.size w w'))
  case atStart => exact ⟨(a0), (([] : List Int)), (by first | rfl | (simp; done) | (simp [*]; done)), H', ⟨Nat.le_refl _⟩, ⟨by first | exact Kd.R_nil _ _ _ _ _ | exact Kd.N_nil _ _ _ _ _ | exact Kd.V_nil _ _ _ _ _ | exact Kd.Q_nil _ _ _ _ _ | exact Kd.S_nil _ _ _ _ _⟩, ⟨by repeat (first | (with_reducible first | exact HB.out | apply below_alloc | apply pw_below_drewN | apply below_drew1) | exact HB.out)⟩⟩
  case round =>
    clear H'
    try clear p2
    obtain ⟨x0_1, x7_1, rfl, HA, HK1, HO_7, HB⟩ := hrel
    cases gk with
    | zero => exact absurd HA.out (by simp [gronx_zzReplaceAll.l0])
    | succ k1 =>
      have H := HA.out
      clear HA
      simp only [gronx_zzReplaceAll.l0] at H
      replace H := Option.bind_eq_some_iff.mp H
      obtain ⟨t218, A40, H⟩ := H
      replace H : (if t218 < 0 then (if x7_1.length + x0_1.size < 140737488355328 then (some (strOfNums (x7_1 ++ bytesOf x0_1))) else (none)) else (if 0 ≤ t218 then (if t218 ≤ (x0_1.size : Int) then (if x7_1.length + (x0_1.extract 0 (t218 : Int).toNat).size < 140737488355328 then ((some (x7_1 ++ bytesOf (x0_1.extract 0 (t218 : Int).toNat) : List Int)).bind fun y222 => (if y222.length + a2.size < 140737488355328 then (if 0 ≤ (wrap64 (t218 + (a1.size : Int))) then (if (wrap64 (t218 + (a1.size : Int))) ≤ (x0_1.size : Int) then (gronx_zzReplaceAll.l0 k1 (x0_1.extract ((wrap64 (t218 + (a1.size : Int))) : Int).toNat x0_1.size) a1 a2 (y222 ++ bytesOf a2)) else (none)) else (none)) else (none))) else (none)) else (none)) else (none))) = some r := H
      have A4 := Aside0.mk A40
      clear A40
      by_cases c5 : t218 < 0
      · rw [if_pos c5] at H
        have c5b0 : decide (t218 < 0) = true := decide_eq_true c5
        clear c5
        by_cases c6 : x7_1.length + x0_1.size < 140737488355328
        · rw [if_pos c6] at H
          have LMc6 := Aside0.mk c6
          clear c6
          obtain ⟨y219, hy219⟩ : ∃ y_ : List Int, y_ = (x7_1 ++ bytesOf x0_1) := ⟨_, rfl⟩
          replace H : (some (strOfNums y219)) = some r := by first | (rw [hy219]; with_reducible exact H) | (have H2_ := (Option.bind_some _ _).symm.trans H; rw [hy219]; with_reducible exact H2_) | (have H2_ := (Option.bind_some _ _).symm.trans H; with_reducible exact H2_) | with_reducible exact H | (rw [hy219]; exact H) | exact H
          have Ny219 := Aside0.mk hy219
          clear hy219
          obtain rfl := Option.some.inj H
          go_wp2_with (first | ((with_reducible refine gate_callee (f := 80) rfl ?_); refine goesL_ (some 11) rfl rfl Tryz.func80 (by kernel_rfl) rfl #[.string x0_1, .string a1] rfl (by (try simp only [List.map_toArray, List.map_cons, List.map_nil]); first | done | rfl | (simp only [List.length_drop, List.length_take]; rfl)) ?_; (with_reducible refine (gronx_zzIndex.calls k1 x0_1 a1 t218 _ A4.out).mono ?_); rintro e w' ⟨rfl, ⟨nd, rfl⟩⟩; refine ⟨_, rfl, ?_⟩) | (at_builtin; refine print_append_str (w0 := w) w.heap.size rfl (.tmp 14) _ 78 9 5 rfl Tryz.underlying78 Tryz.underlying9 info5 u7 x7_1 x0_1 rfl rfl ?aO ?aB ?aS ?aL ?_; (case aB => exact (by repeat (first | (with_reducible first | exact HB.out | apply below_alloc | apply pw_below_drewN | apply below_drew1) | exact HB.out))); (case aO => exact (Kd.own_of_R (by (with_reducible repeat (first | apply Kd.R_alloc | apply Kd.R_drewN | apply Kd.R_drew)); exact HO_7.out))); (case aS => exact (below_size (by repeat (first | (with_reducible first | exact HB.out | apply below_alloc | apply pw_below_drewN | apply below_drew1) | exact HB.out)))); (case aL => have := LMc6.out; omega); intro v220 w7 ho0 hb hg; have ho := Kd.R_of_own (h1 := fun _ => rfl) (ok := fun _ => True) ho0 (fun _ _ => trivial); clear ho0; have hat := True.intro; rw [← Ny219.out] at ho; change Kd.R (Kd.int .u8) 5 w7 w.heap.size (fun _ => True) v220 y219 at ho; have n0_ := Aside0.mk (hb); have n1_ := Aside0.mk (ho); clear HB; clear HO_7; have HB := n0_; have HO221 := n1_; clear n0_ n1_; clear ho hb hg hat; have hcv8 := own_string (P := Tryz.prog) Tryz.underlying78 Tryz.underlying5 Tryz.underlying9 (Kd.own_of_R HO221.out)))
          go_ret
          exact ⟨by first | rfl | (simp [errW_none, errW_some] <;> rfl) | (simp [*, errW_none, errW_some] <;> rfl), by repeat (first | (with_reducible first | exact HB.out | apply below_alloc | apply pw_below_drewN | apply below_drew1) | exact HB.out)⟩
        · rw [if_neg c6] at H
          exact absurd H (by simp)
      · rw [if_neg c5] at H
        have c5b0 : decide (t218 < 0) = false := decide_eq_false c5
        clear c5
        by_cases c9 : 0 ≤ t218
        · rw [if_pos c9] at H
          have c9b0 := eq_true c9
          have c9b1 : decide (0 ≤ t218) = true := decide_eq_true c9
          clear c9
          by_cases c10 : t218 ≤ (x0_1.size : Int)
          · rw [if_pos c10] at H
            have c10b0 := eq_true c10
            have c10b1 : decide (t218 ≤ (x0_1.size : Int)) = true := decide_eq_true c10
            clear c10
            by_cases c11 : x7_1.length + (x0_1.extract 0 (t218 : Int).toNat).size < 140737488355328
            · rw [if_pos c11] at H
              have LMc11 := Aside0.mk c11
              clear c11
              obtain ⟨y222, hy222⟩ : ∃ y_ : List Int, y_ = (x7_1 ++ bytesOf (x0_1.extract 0 (t218 : Int).toNat)) := ⟨_, rfl⟩
              replace H : (if y222.length + a2.size < 140737488355328 then (if 0 ≤ (wrap64 (t218 + (a1.size : Int))) then (if (wrap64 (t218 + (a1.size : Int))) ≤ (x0_1.size : Int) then (gronx_zzReplaceAll.l0 k1 (x0_1.extract ((wrap64 (t218 + (a1.size : Int))) : Int).toNat x0_1.size) a1 a2 (y222 ++ bytesOf a2)) else (none)) else (none)) else (none)) = some r := by first | (rw [hy222]; with_reducible exact H) | (have H2_ := (Option.bind_some _ _).symm.trans H; rw [hy222]; with_reducible exact H2_) | (have H2_ := (Option.bind_some _ _).symm.trans H; with_reducible exact H2_) | with_reducible exact H | (rw [hy222]; exact H) | exact H
              have Ny222 := Aside0.mk hy222
              clear hy222
              by_cases c12 : y222.length + a2.size < 140737488355328
              · rw [if_pos c12] at H
                have LMc12 := Aside0.mk c12
                clear c12
                obtain ⟨y225, hy225⟩ : ∃ y_ : List Int, y_ = (y222 ++ bytesOf a2) := ⟨_, rfl⟩
                replace H : (if 0 ≤ (wrap64 (t218 + (a1.size : Int))) then (if (wrap64 (t218 + (a1.size : Int))) ≤ (x0_1.size : Int) then (gronx_zzReplaceAll.l0 k1 (x0_1.extract ((wrap64 (t218 + (a1.size : Int))) : Int).toNat x0_1.size) a1 a2 y225) else (none)) else (none)) = some r := by first | (rw [hy225]; with_reducible exact H) | (have H2_ := (Option.bind_some _ _).symm.trans H; rw [hy225]; with_reducible exact H2_) | (have H2_ := (Option.bind_some _ _).symm.trans H; with_reducible exact H2_) | with_reducible exact H | (rw [hy225]; exact H) | exact H
                have Ny225 := Aside0.mk hy225
                clear hy225
                obtain ⟨ji13, hji13⟩ : ∃ j_ : Int, (wrap64 (t218 + (a1.size : Int))) = j_ := ⟨_, rfl⟩
                replace H : (if 0 ≤ (ji13) then (if (ji13) ≤ (x0_1.size : Int) then (gronx_zzReplaceAll.l0 k1 (x0_1.extract ((ji13) : Int).toNat x0_1.size) a1 a2 y225) else (none)) else (none)) = some r := by first | (rw [hji13] at H; exact H) | (simp only [hji13] at H ⊢; exact H)
                (try rw [hji13] at A4)
                have hji13w : (IntKind.i64.wrap (t218 + (a1.size : Int))) = ji13 := (i64_w _).trans hji13
                by_cases c14 : 0 ≤ (ji13)
                · rw [if_pos c14] at H
                  have c14b0 := eq_true c14
                  have c14b1 : decide (0 ≤ (ji13)) = true := decide_eq_true c14
                  clear c14
                  by_cases c15 : (ji13) ≤ (x0_1.size : Int)
                  · rw [if_pos c15] at H
                    have c15b0 := eq_true c15
                    have c15b1 : decide ((ji13) ≤ (x0_1.size : Int)) = true := decide_eq_true c15
                    clear c15
                    have H' := Aside0.mk H
                    clear H
                    go_wp2_with (first | ((with_reducible refine gate_callee (f := 80) rfl ?_); refine goesL_ (some 11) rfl rfl Tryz.func80 (by kernel_rfl) rfl #[.string x0_1, .string a1] rfl (by (try simp only [List.map_toArray, List.map_cons, List.map_nil]); first | done | rfl | (simp only [List.length_drop, List.length_take]; rfl)) ?_; (with_reducible refine (gronx_zzIndex.calls k1 x0_1 a1 t218 _ A4.out).mono ?_); rintro e w' ⟨rfl, ⟨nd, rfl⟩⟩; refine ⟨_, rfl, ?_⟩) | (at_builtin; refine print_append_str (w0 := w) w.heap.size rfl (.tmp 18) _ 78 9 5 rfl Tryz.underlying78 Tryz.underlying9 info5 u7 x7_1 (x0_1.extract 0 (t218 : Int).toNat) rfl rfl ?aO ?aB ?aS ?aL ?_; (case aB => exact (by repeat (first | (with_reducible first | exact HB.out | apply below_alloc | apply pw_below_drewN | apply below_drew1) | exact HB.out))); (case aO => exact (Kd.own_of_R (by (with_reducible repeat (first | apply Kd.R_alloc | apply Kd.R_drewN | apply Kd.R_drew)); exact HO_7.out))); (case aS => exact (below_size (by repeat (first | (with_reducible first | exact HB.out | apply below_alloc | apply pw_below_drewN | apply below_drew1) | exact HB.out)))); (case aL => have := LMc11.out; omega); intro v223 w16 ho0 hb hg; have ho := Kd.R_of_own (h1 := fun _ => rfl) (ok := fun _ => True) ho0 (fun _ _ => trivial); clear ho0; have hat := True.intro; rw [← Ny222.out] at ho; change Kd.R (Kd.int .u8) 5 w16 w.heap.size (fun _ => True) v223 y222 at ho; have n0_ := Aside0.mk (hb); have n1_ := Aside0.mk (ho); clear HB; clear HO_7; have HB := n0_; have HO224 := n1_; clear n0_ n1_; clear ho hb hg hat) | (at_builtin; refine print_append_str (w0 := w) w.heap.size rfl (.tmp 22) _ 78 9 5 rfl Tryz.underlying78 Tryz.underlying9 info5 v223 y222 a2 rfl rfl ?aO ?aB ?aS ?aL ?_; (case aB => exact (by repeat (first | (with_reducible first | exact HB.out | apply below_alloc | apply pw_below_drewN | apply below_drew1) | exact HB.out))); (case aO => exact (Kd.own_of_R (by (with_reducible repeat (first | apply Kd.R_alloc | apply Kd.R_drewN | apply Kd.R_drew)); exact HO224.out))); (case aS => exact (below_size (by repeat (first | (with_reducible first | exact HB.out | apply below_alloc | apply pw_below_drewN | apply below_drew1) | exact HB.out)))); (case aL => have := LMc12.out; omega); intro v226 w17 ho0 hb hg; have ho := Kd.R_of_own (h1 := fun _ => rfl) (ok := fun _ => True) ho0 (fun _ _ => trivial); clear ho0; have hat := True.intro; rw [← Ny225.out] at ho; change Kd.R (Kd.int .u8) 5 w17 w.heap.size (fun _ => True) v226 y225 at ho; have n0_ := Aside0.mk (hb); have n1_ := Aside0.mk (ho); clear HB; clear HO224; have HB := n0_; have HO227 := n1_; clear n0_ n1_; clear ho hb hg hat))
                    go_roundg k1
                    case measure => have := HK1.out; omega
                    case rel => exact ⟨(x0_1.extract ((ji13) : Int).toNat x0_1.size), (y225), (by first | rfl | (simp; done) | (simp only [← hji13] <;> (first | rfl | simp)) | (simp [*]; done)), H', ⟨by have := HK1.out; omega⟩, ⟨by (with_reducible repeat (first | apply Kd.R_alloc | apply Kd.R_drewN | apply Kd.R_drew)); exact HO227.out⟩, ⟨by repeat (first | (with_reducible first | exact HB.out | apply below_alloc | apply pw_below_drewN | apply below_drew1) | exact HB.out)⟩⟩
                  · rw [if_neg c15] at H
                    exact absurd H (by simp)
                · rw [if_neg c14] at H
                  exact absurd H (by simp)
              · rw [if_neg c12] at H
                exact absurd H (by simp)
            · rw [if_neg c11] at H
              exact absurd H (by simp)
          · rw [if_neg c10] at H
            exact absurd H (by simp)
        · rw [if_neg c9] at H
          exact absurd H (by simp)
end Go.Proofs.YtkhgeonlohafgaaGreatDoor.Core
namespace Go.Proofs.YtkhgeonlohafgaaGreatDoor.Core
open Go.RowKit Go.Proofs.YtkhgeonlohafgaaGreatDoorW.PrintWords Go.Proofs.YtkhgeonlohafgaaGreatDoorW.PrintLast Go.Proofs.YtkhgeonlohafgaaGreatDoorW.PrintMore
attribute [local go_sem] max2_int min2_int max_two min_two max_three min_three max_four min_four   -- for this text's walks alone
set_option linter.unusedVariables false
set_option linter.unusedSimpArgs false
mutual
def gronx_zzTrim.j1 : Nat → ByteArray → Option (ByteArray)
  | 0, _ => none
  | k + 1, x0 => gronx_zzTrim.l1 k x0
def gronx_zzTrim.l1 : Nat → ByteArray → Option (ByteArray)
  | 0, _ => none
  | k + 1, x0 => if (x0.size : Int) > 0 then (if 0 ≤ (wrap64 ((x0.size : Int) - 1)) then (if (wrap64 ((x0.size : Int) - 1)) < (x0.size : Int) then (if (bt x0 (wrap64 ((x0.size : Int) - 1))) = 32 then (if (wrap64 ((x0.size : Int) - 1)) ≤ (x0.size : Int) then (gronx_zzTrim.l1 k (x0.extract 0 ((wrap64 ((x0.size : Int) - 1)) : Int).toNat)) else (none)) else (if (bt x0 (wrap64 ((x0.size : Int) - 1))) = 9 then (if (wrap64 ((x0.size : Int) - 1)) ≤ (x0.size : Int) then (gronx_zzTrim.l1 k (x0.extract 0 ((wrap64 ((x0.size : Int) - 1)) : Int).toNat)) else (none)) else (some x0))) else (none)) else (none)) else (some x0)
def gronx_zzTrim.l0 : Nat → ByteArray → Option (ByteArray)
  | 0, _ => none
  | k + 1, x0 => if (x0.size : Int) > 0 then (if 0 < (x0.size : Int) then (if (bt x0 0) = 32 then (if 1 ≤ (x0.size : Int) then (gronx_zzTrim.l0 k (x0.extract 1 x0.size)) else (none)) else (if (bt x0 0) = 9 then (if 1 ≤ (x0.size : Int) then (gronx_zzTrim.l0 k (x0.extract 1 x0.size)) else (none)) else (gronx_zzTrim.j1 k x0))) else (none)) else (gronx_zzTrim.j1 k x0)
end
def gronx_zzTrim.f (k : Nat) (a0 : ByteArray) : Option (ByteArray) := gronx_zzTrim.l0 k a0
theorem gronx_zzTrim.mono_l : ∀ k, (∀ y0, LeO (gronx_zzTrim.j1 k y0) (gronx_zzTrim.j1 (k + 1) y0)) ∧ (∀ y0, LeO (gronx_zzTrim.l1 k y0) (gronx_zzTrim.l1 (k + 1) y0)) ∧ (∀ y0, LeO (gronx_zzTrim.l0 k y0) (gronx_zzTrim.l0 (k + 1) y0))
  | 0 => ⟨fun _ r h => by simp [gronx_zzTrim.j1] at h, fun _ r h => by simp [gronx_zzTrim.l1] at h, fun _ r h => by simp [gronx_zzTrim.l0] at h⟩
  | k + 1 => by
    obtain ⟨ih0, ih1, ih2⟩ := gronx_zzTrim.mono_l k
    refine ⟨?_, ?_, ?_⟩
    · intro y0
      unfold gronx_zzTrim.j1
      repeat' first
      | (with_reducible exact ih0 _)
      | (with_reducible exact ih1 _)
      | (with_reducible exact ih2 _)
      | (with_reducible exact LeO.refl _)
      | (with_reducible exact LeO.none _)
      | (with_reducible refine LeO.ite ?_ ?_)
      | (with_reducible refine LeO.bind ?_ (fun _ => ?_))
      | exact ih0 _
      | exact ih1 _
      | exact ih2 _
      | exact LeO.none _
      | refine LeO.ite ?_ ?_
      | refine LeO.bind ?_ (fun _ => ?_)
    · intro y0
      unfold gronx_zzTrim.l1
      repeat' first
      | (with_reducible exact ih0 _)
      | (with_reducible exact ih1 _)
      | (with_reducible exact ih2 _)
      | (with_reducible exact LeO.refl _)
      | (with_reducible exact LeO.none _)
      | (with_reducible refine LeO.ite ?_ ?_)
      | (with_reducible refine LeO.bind ?_ (fun _ => ?_))
      | exact ih0 _
      | exact ih1 _
      | exact ih2 _
      | exact LeO.none _
      | refine LeO.ite ?_ ?_
      | refine LeO.bind ?_ (fun _ => ?_)
    · intro y0
      unfold gronx_zzTrim.l0
      repeat' first
      | (with_reducible exact ih0 _)
      | (with_reducible exact ih1 _)
      | (with_reducible exact ih2 _)
      | (with_reducible exact LeO.refl _)
      | (with_reducible exact LeO.none _)
      | (with_reducible refine LeO.ite ?_ ?_)
      | (with_reducible refine LeO.bind ?_ (fun _ => ?_))
      | exact ih0 _
      | exact ih1 _
      | exact ih2 _
      | exact LeO.none _
      | refine LeO.ite ?_ ?_
      | refine LeO.bind ?_ (fun _ => ?_)
theorem gronx_zzTrim.mono : ∀ a0 k, LeO (gronx_zzTrim.f k a0) (gronx_zzTrim.f (k + 1) a0) := by
  intro a0 k
  obtain ⟨ih0, ih1, ih2⟩ := gronx_zzTrim.mono_l k
  unfold gronx_zzTrim.f
  repeat' first
      | (with_reducible exact ih0 _)
      | (with_reducible exact ih1 _)
      | (with_reducible exact ih2 _)
      | (with_reducible exact LeO.refl _)
      | (with_reducible exact LeO.none _)
      | (with_reducible refine LeO.ite ?_ ?_)
      | (with_reducible refine LeO.bind ?_ (fun _ => ?_))
      | exact ih0 _
      | exact ih1 _
      | exact ih2 _
      | exact LeO.none _
      | refine LeO.ite ?_ ?_
      | refine LeO.bind ?_ (fun _ => ?_)
set_option maxHeartbeats 8000000 in
set_option maxRecDepth 100000 in
theorem gronx_zzTrim.calls (k : Nat) (a0 : ByteArray) (r : ByteArray) (w : World) (h : gronx_zzTrim.f k a0 = some r) :
    Calls Tryz.prog 73 #[.string a0] w fun e w' => e = .returned (.string r) ∧ Drawn0 w w' := by
  have H : (gronx_zzTrim.l0 k a0) = some r := h
  clear h
  have HC2 := Aside0.mk H
  clear H
  go_enter Tryz.func73, Tryz.ntmps73
  go_upto_block 0 with (fail)
  go_cut [0] (fun v0 wc => ∃ (kq : Nat) (x0_1 : ByteArray), v0 = .string x0_1 ∧ Aside0 (gronx_zzTrim.j1 kq x0_1 = some r) ∧ Aside0 (kq ≤ k) ∧ Drawn0 w wc)
  case first =>
    have H := HC2.out
    clear HC2
    have H' := Aside0.mk H
    clear H
    go_wp2
    go_loopg [0] k (fun kq v0 w' => ∃ (x0_1 : ByteArray), v0 = .string x0_1 ∧ Aside0 (gronx_zzTrim.l0 kq x0_1 = some r) ∧ Aside0 (kq ≤ k) ∧ Drawn0 w w')
    case atStart => exact ⟨(a0), (by first | rfl | (simp; done) | (simp [*]; done)), H', ⟨Nat.le_refl _⟩, by repeat (first | exact Drawn0.refl _ | apply Drawn0.step)⟩
    case round =>
      clear H'
      try clear p2
      obtain ⟨x0_1, rfl, HA, HK1, ⟨m1, rfl⟩⟩ := hrel
      cases gk with
      | zero => exact absurd HA.out (by simp [gronx_zzTrim.l0])
      | succ k1 =>
        have H := HA.out
        clear HA
        simp only [gronx_zzTrim.l0] at H
        by_cases c3 : (x0_1.size : Int) > 0
        · rw [if_pos c3] at H
          have c3b0 : decide (0 < (x0_1.size : Int)) = true := decide_eq_true c3
          have c3b1 : decide (0 < x0_1.size) = true := decide_eq_true (by omega)
          clear c3
          (first | rw [c3b0] | (simp only [i64_w, i32_w]; rw [c3b0]) | skip)
          by_cases c4 : 0 < (x0_1.size : Int)
          · rw [if_pos c4] at H
            have c4b0 : decide (0 < (x0_1.size : Int)) = true := decide_eq_true c4
            have c4b1 : decide (0 < x0_1.size) = true := decide_eq_true (by omega)
            clear c4
            by_cases c6 : (bt x0_1 0) = 32
            · rw [if_pos c6] at H
              have c6b0 : ((bt x0_1 0) == 32) = true := beq_iff_eq.mpr c6
              have c6b1 : ((bt x0_1 0) != 32) = false := bne_eq_false_iff_eq.mpr c6
              clear c6
              by_cases c7 : 1 ≤ (x0_1.size : Int)
              · rw [if_pos c7] at H
                have c7b0 := eq_true c7
                have c7b1 : decide (1 ≤ (x0_1.size : Int)) = true := decide_eq_true c7
                clear c7
                have H' := Aside0.mk H
                clear H
                have p5 : 0 ≤ (0 : Int) := (by omega)
                have q5 : 0 < x0_1.size := (by have : (0 : Int) < (x0_1.size : Int) := of_decide_eq_true (by first | (with_reducible assumption) | assumption); omega)
                have hx5 : ∀ h : 0 < x0_1.size, ((x0_1[0]'h).toNat : Int) = bt x0_1 0 := bt_at x0_1 0
                clear p5
                have qi5 : (0 < (x0_1.size : Int)) = True := eq_true (of_decide_eq_true (by first | (with_reducible assumption) | assumption))
                replace q5 := eq_true q5
                go_wp2
                go_roundg k1
                case measure => have := HK1.out; omega
                case rel => exact ⟨(x0_1.extract 1 x0_1.size), (by first | rfl | (simp; done) | (simp [*]; done)), H', ⟨by have := HK1.out; omega⟩, by repeat (first | exact Drawn0.refl _ | apply Drawn0.step)⟩
              · rw [if_neg c7] at H
                exact absurd H (by simp)
            · rw [if_neg c6] at H
              have c6b0 : ((bt x0_1 0) == 32) = false := beq_eq_false_iff_ne.mpr c6
              have c6b1 : ((bt x0_1 0) != 32) = true := bne_iff_ne.mpr c6
              by_cases c9 : (bt x0_1 0) = 9
              · rw [if_pos c9] at H
                have c9b0 : ((bt x0_1 0) == 9) = true := beq_iff_eq.mpr c9
                have c9b1 : ((bt x0_1 0) != 9) = false := bne_eq_false_iff_eq.mpr c9
                clear c9
                by_cases c10 : 1 ≤ (x0_1.size : Int)
                · rw [if_pos c10] at H
                  have c10b0 := eq_true c10
                  have c10b1 : decide (1 ≤ (x0_1.size : Int)) = true := decide_eq_true c10
                  clear c10
                  have H' := Aside0.mk H
                  clear H
                  have p5 : 0 ≤ (0 : Int) := (by omega)
                  have q5 : 0 < x0_1.size := (by have : (0 : Int) < (x0_1.size : Int) := of_decide_eq_true (by first | (with_reducible assumption) | assumption); omega)
                  have hx5 : ∀ h : 0 < x0_1.size, ((x0_1[0]'h).toNat : Int) = bt x0_1 0 := bt_at x0_1 0
                  clear p5
                  have qi5 : (0 < (x0_1.size : Int)) = True := eq_true (of_decide_eq_true (by first | (with_reducible assumption) | assumption))
                  replace q5 := eq_true q5
                  have p8 : 0 ≤ (0 : Int) := (by omega)
                  have q8 : 0 < x0_1.size := (by have : (0 : Int) < (x0_1.size : Int) := of_decide_eq_true (by first | (with_reducible assumption) | assumption); omega)
                  have hx8 : ∀ h : 0 < x0_1.size, ((x0_1[0]'h).toNat : Int) = bt x0_1 0 := bt_at x0_1 0
                  clear p8
                  have qi8 : (0 < (x0_1.size : Int)) = True := eq_true (of_decide_eq_true (by first | (with_reducible assumption) | assumption))
                  replace q8 := eq_true q8
                  go_wp2
                  go_roundg k1
                  case measure => have := HK1.out; omega
                  case rel => exact ⟨(x0_1.extract 1 x0_1.size), (by first | rfl | (simp; done) | (simp [*]; done)), H', ⟨by have := HK1.out; omega⟩, by repeat (first | exact Drawn0.refl _ | apply Drawn0.step)⟩
                · rw [if_neg c10] at H
                  exact absurd H (by simp)
              · rw [if_neg c9] at H
                have c9b0 : ((bt x0_1 0) == 9) = false := beq_eq_false_iff_ne.mpr c9
                have c9b1 : ((bt x0_1 0) != 9) = true := bne_iff_ne.mpr c9
                have H' := Aside0.mk H
                clear H
                have p5 : 0 ≤ (0 : Int) := (by omega)
                have q5 : 0 < x0_1.size := (by have : (0 : Int) < (x0_1.size : Int) := of_decide_eq_true (by first | (with_reducible assumption) | assumption); omega)
                have hx5 : ∀ h : 0 < x0_1.size, ((x0_1[0]'h).toNat : Int) = bt x0_1 0 := bt_at x0_1 0
                clear p5
                have qi5 : (0 < (x0_1.size : Int)) = True := eq_true (of_decide_eq_true (by first | (with_reducible assumption) | assumption))
                replace q5 := eq_true q5
                have p8 : 0 ≤ (0 : Int) := (by omega)
                have q8 : 0 < x0_1.size := (by have : (0 : Int) < (x0_1.size : Int) := of_decide_eq_true (by first | (with_reducible assumption) | assumption); omega)
                have hx8 : ∀ h : 0 < x0_1.size, ((x0_1[0]'h).toNat : Int) = bt x0_1 0 := bt_at x0_1 0
                clear p8
                have qi8 : (0 < (x0_1.size : Int)) = True := eq_true (of_decide_eq_true (by first | (with_reducible assumption) | assumption))
                replace q8 := eq_true q8
                go_wp2
                go_meet
                case rel => exact ⟨_, (x0_1), (by first | rfl | (simp; done) | (simp [*]; done)), H', ⟨by have := HK1.out; first | omega | exact Nat.le_refl _⟩, by repeat (first | exact Drawn0.refl _ | apply Drawn0.step)⟩
          · rw [if_neg c4] at H
            exact absurd H (by simp)
        · rw [if_neg c3] at H
          have c3b0 : decide (0 < (x0_1.size : Int)) = false := decide_eq_false c3
          have c3b1 : decide (0 < x0_1.size) = false := decide_eq_false (by omega)
          clear c3
          (first | rw [c3b0] | (simp only [i64_w, i32_w]; rw [c3b0]) | skip)
          have H' := Aside0.mk H
          clear H
          go_wp2
          go_meet
          case rel => exact ⟨_, (x0_1), (by first | rfl | (simp; done) | (simp [*]; done)), H', ⟨by have := HK1.out; first | omega | exact Nat.le_refl _⟩, by repeat (first | exact Drawn0.refl _ | apply Drawn0.step)⟩
  case rest =>
    clear HC2
    try clear c1
    try clear p2
    try clear c3
    try clear c3b0
    try clear c3b1
    try clear c4
    try clear c4b0
    try clear c4b1
    try clear p5
    try clear q5
    try clear hx5
    try clear qi5
    try clear c6
    try clear c6b0
    try clear c6b1
    try clear c7
    try clear c7b0
    try clear c7b1
    try clear p8
    try clear q8
    try clear hx8
    try clear qi8
    try clear c9
    try clear c9b0
    try clear c9b1
    try clear c10
    try clear c10b0
    try clear c10b1
    try clear p2
    try clear p5
    try clear p8
    try clear q5
    try clear q8
    obtain ⟨kq, x0_1, rfl, HA, HJ1, ⟨mc1, rfl⟩⟩ := hcut
    cases kq with
    | zero => exact absurd HA.out (by simp [gronx_zzTrim.j1])
    | succ kj1 =>
      have H := HA.out
      clear HA
      simp only [gronx_zzTrim.j1] at H
      have H' := Aside0.mk H
      clear H
      go_wp2
      go_loopg [0] kj1 (fun kq v0 w' => ∃ (x0_2 : ByteArray), v0 = .string x0_2 ∧ Aside0 (gronx_zzTrim.l1 kq x0_2 = some r) ∧ Aside0 (kq ≤ kj1) ∧ Drawn0 w w')
      case atStart => exact ⟨(x0_1), (by first | rfl | (simp; done) | (simp [*]; done)), H', ⟨Nat.le_refl _⟩, by repeat (first | exact Drawn0.refl _ | apply Drawn0.step)⟩
      case round =>
        clear H'
        try clear c1
        try clear p2
        try clear c3
        try clear c3b0
        try clear c3b1
        try clear c4
        try clear c4b0
        try clear c4b1
        try clear p5
        try clear q5
        try clear hx5
        try clear qi5
        try clear c6
        try clear c6b0
        try clear c6b1
        try clear c7
        try clear c7b0
        try clear c7b1
        try clear p8
        try clear q8
        try clear hx8
        try clear qi8
        try clear c9
        try clear c9b0
        try clear c9b1
        try clear c10
        try clear c10b0
        try clear c10b1
        try clear p2
        try clear p5
        try clear p8
        try clear q5
        try clear q8
        obtain ⟨x0_2, rfl, HA, HK2, ⟨m2, rfl⟩⟩ := hrel
        cases gk with
        | zero => exact absurd HA.out (by simp [gronx_zzTrim.l1])
        | succ k2 =>
          have H := HA.out
          clear HA
          simp only [gronx_zzTrim.l1] at H
          by_cases c11 : (x0_2.size : Int) > 0
          · rw [if_pos c11] at H
            have c11b0 : decide (0 < (x0_2.size : Int)) = true := decide_eq_true c11
            have c11b1 : decide (0 < x0_2.size) = true := decide_eq_true (by omega)
            clear c11
            obtain ⟨ji12, hji12⟩ : ∃ j_ : Int, (wrap64 ((x0_2.size : Int) - 1)) = j_ := ⟨_, rfl⟩
            replace H : (if 0 ≤ (ji12) then (if (ji12) < (x0_2.size : Int) then (if (bt x0_2 (ji12)) = 32 then (if (ji12) ≤ (x0_2.size : Int) then (gronx_zzTrim.l1 k2 (x0_2.extract 0 ((ji12) : Int).toNat)) else (none)) else (if (bt x0_2 (ji12)) = 9 then (if (ji12) ≤ (x0_2.size : Int) then (gronx_zzTrim.l1 k2 (x0_2.extract 0 ((ji12) : Int).toNat)) else (none)) else (some x0_2))) else (none)) else (none)) = some r := by first | (rw [hji12] at H; exact H) | (simp only [hji12] at H ⊢; exact H)
            have hji12w : (IntKind.i64.wrap ((x0_2.size : Int) - 1)) = ji12 := (i64_w _).trans hji12
            by_cases c13 : 0 ≤ (ji12)
            · rw [if_pos c13] at H
              have c13b0 : decide (0 ≤ (ji12)) = true := decide_eq_true c13
              clear c13
              by_cases c14 : (ji12) < (x0_2.size : Int)
              · rw [if_pos c14] at H
                have c14b0 : decide ((ji12) < (x0_2.size : Int)) = true := decide_eq_true c14
                clear c14
                by_cases c16 : (bt x0_2 (ji12)) = 32
                · rw [if_pos c16] at H
                  have c16b0 : ((bt x0_2 (ji12)) == 32) = true := beq_iff_eq.mpr c16
                  have c16b1 : ((bt x0_2 (ji12)) != 32) = false := bne_eq_false_iff_eq.mpr c16
                  clear c16
                  have c17b0 := eq_true (of_decide_eq_true (by first | (with_reducible assumption) | assumption) : 0 ≤ (ji12))
                  by_cases c18 : (ji12) ≤ (x0_2.size : Int)
                  · rw [if_pos c18] at H
                    have c18b0 := eq_true c18
                    have c18b1 : decide ((ji12) ≤ (x0_2.size : Int)) = true := decide_eq_true c18
                    clear c18
                    have H' := Aside0.mk H
                    clear H
                    have p15 : 0 ≤ ((ji12) : Int) := of_decide_eq_true (by first | (with_reducible assumption) | assumption)
                    have q15 : (ji12) < (x0_2.size : Int) := of_decide_eq_true (by first | (with_reducible assumption) | assumption)
                    have hx15 := bt_at x0_2 (ji12)
                    replace p15 := eq_true p15
                    replace q15 := eq_true q15
                    go_wp2
                    go_roundg k2
                    case measure => have := HJ1.out; have := HK2.out; omega
                    case rel => exact ⟨(x0_2.extract 0 ((ji12) : Int).toNat), (by first | rfl | (simp; done) | (simp only [← hji12] <;> (first | rfl | simp)) | (simp [*]; done)), H', ⟨by have := HJ1.out; have := HK2.out; omega⟩, by repeat (first | exact Drawn0.refl _ | apply Drawn0.step)⟩
                  · rw [if_neg c18] at H
                    exact absurd H (by simp)
                · rw [if_neg c16] at H
                  have c16b0 : ((bt x0_2 (ji12)) == 32) = false := beq_eq_false_iff_ne.mpr c16
                  have c16b1 : ((bt x0_2 (ji12)) != 32) = true := bne_iff_ne.mpr c16
                  by_cases c20 : (bt x0_2 (ji12)) = 9
                  · rw [if_pos c20] at H
                    have c20b0 : ((bt x0_2 (ji12)) == 9) = true := beq_iff_eq.mpr c20
                    have c20b1 : ((bt x0_2 (ji12)) != 9) = false := bne_eq_false_iff_eq.mpr c20
                    clear c20
                    have c21b0 := eq_true (of_decide_eq_true (by first | (with_reducible assumption) | assumption) : 0 ≤ (ji12))
                    by_cases c22 : (ji12) ≤ (x0_2.size : Int)
                    · rw [if_pos c22] at H
                      have c22b0 := eq_true c22
                      have c22b1 : decide ((ji12) ≤ (x0_2.size : Int)) = true := decide_eq_true c22
                      clear c22
                      have H' := Aside0.mk H
                      clear H
                      have p15 : 0 ≤ ((ji12) : Int) := of_decide_eq_true (by first | (with_reducible assumption) | assumption)
                      have q15 : (ji12) < (x0_2.size : Int) := of_decide_eq_true (by first | (with_reducible assumption) | assumption)
                      have hx15 := bt_at x0_2 (ji12)
                      replace p15 := eq_true p15
                      replace q15 := eq_true q15
                      have p19 : 0 ≤ ((ji12) : Int) := of_decide_eq_true (by first | (with_reducible assumption) | assumption)
                      have q19 : (ji12) < (x0_2.size : Int) := of_decide_eq_true (by first | (with_reducible assumption) | assumption)
                      have hx19 := bt_at x0_2 (ji12)
                      replace p19 := eq_true p19
                      replace q19 := eq_true q19
                      go_wp2
                      go_roundg k2
                      case measure => have := HJ1.out; have := HK2.out; omega
                      case rel => exact ⟨(x0_2.extract 0 ((ji12) : Int).toNat), (by first | rfl | (simp; done) | (simp only [← hji12] <;> (first | rfl | simp)) | (simp [*]; done)), H', ⟨by have := HJ1.out; have := HK2.out; omega⟩, by repeat (first | exact Drawn0.refl _ | apply Drawn0.step)⟩
                    · rw [if_neg c22] at H
                      exact absurd H (by simp)
                  · rw [if_neg c20] at H
                    have c20b0 : ((bt x0_2 (ji12)) == 9) = false := beq_eq_false_iff_ne.mpr c20
                    have c20b1 : ((bt x0_2 (ji12)) != 9) = true := bne_iff_ne.mpr c20
                    obtain rfl := Option.some.inj H
                    have p15 : 0 ≤ ((ji12) : Int) := of_decide_eq_true (by first | (with_reducible assumption) | assumption)
                    have q15 : (ji12) < (x0_2.size : Int) := of_decide_eq_true (by first | (with_reducible assumption) | assumption)
                    have hx15 := bt_at x0_2 (ji12)
                    replace p15 := eq_true p15
                    replace q15 := eq_true q15
                    have p19 : 0 ≤ ((ji12) : Int) := of_decide_eq_true (by first | (with_reducible assumption) | assumption)
                    have q19 : (ji12) < (x0_2.size : Int) := of_decide_eq_true (by first | (with_reducible assumption) | assumption)
                    have hx19 := bt_at x0_2 (ji12)
                    replace p19 := eq_true p19
                    replace q19 := eq_true q19
                    go_wp2
                    go_ret
                    exact ⟨by first | rfl | (simp; done) | (simp only [← hji12] <;> (first | rfl | simp)) | (simp [*]; done), by repeat (first | exact Drawn0.refl _ | apply Drawn0.step)⟩
              · rw [if_neg c14] at H
                exact absurd H (by simp)
            · rw [if_neg c13] at H
              exact absurd H (by simp)
          · rw [if_neg c11] at H
            have c11b0 : decide (0 < (x0_2.size : Int)) = false := decide_eq_false c11
            have c11b1 : decide (0 < x0_2.size) = false := decide_eq_false (by omega)
            clear c11
            obtain rfl := Option.some.inj H
            go_wp2
            go_ret
            exact ⟨by first | rfl | (simp; done) | (simp [*]; done), by repeat (first | exact Drawn0.refl _ | apply Drawn0.step)⟩
end Go.Proofs.YtkhgeonlohafgaaGreatDoor.Core
namespace Go.Proofs.YtkhgeonlohafgaaGreatDoor.Core
open Go.RowKit Go.Proofs.YtkhgeonlohafgaaGreatDoorW.PrintWords Go.Proofs.YtkhgeonlohafgaaGreatDoorW.PrintLast Go.Proofs.YtkhgeonlohafgaaGreatDoorW.PrintMore
attribute [local go_sem] max2_int min2_int max_two min_two max_three min_three max_four min_four   -- for this text's walks alone
set_option linter.unusedVariables false
set_option linter.unusedSimpArgs false
mutual
def gronx_zzSpaces.l0 : Nat → ByteArray → List Int → Bool → Int → Option (ByteArray)
  | 0, _, _, _, _ => none
  | k + 1, x0, x3, x4, x5 => if x5 < (x0.size : Int) then (if 0 ≤ x5 then (if (bt x0 x5) = 32 then (gronx_zzSpaces.j1 k x0 x3 x4 x5 ((bt x0 x5) == 32)) else (if (bt x0 x5) = 9 then (gronx_zzSpaces.j1 k x0 x3 x4 x5 ((bt x0 x5) == 9)) else (if (bt x0 x5) = 10 then (gronx_zzSpaces.j1 k x0 x3 x4 x5 ((bt x0 x5) == 10)) else (if (bt x0 x5) = 12 then (gronx_zzSpaces.j1 k x0 x3 x4 x5 ((bt x0 x5) == 12)) else (gronx_zzSpaces.j1 k x0 x3 x4 x5 ((bt x0 x5) == 13)))))) else (none)) else (some (strOfNums x3))
def gronx_zzSpaces.j1 : Nat → ByteArray → List Int → Bool → Int → Bool → Option (ByteArray)
  | 0, _, _, _, _, _ => none
  | k + 1, x0, x3, x4, x5, x21 => if x21 = true then (if x4 = true then (gronx_zzSpaces.l0 k x0 x3 true (wrap64 (x5 + 1))) else (if x3.length < 140737488355328 then (gronx_zzSpaces.l0 k x0 (x3 ++ [32]) true (wrap64 (x5 + 1))) else (none))) else (if 0 ≤ x5 then (if x5 < (x0.size : Int) then (if x3.length < 140737488355328 then (gronx_zzSpaces.l0 k x0 (x3 ++ [bt x0 x5]) false (wrap64 (x5 + 1))) else (none)) else (none)) else (none))
end
def gronx_zzSpaces.f (k : Nat) (a0 : ByteArray) : Option (ByteArray) := gronx_zzSpaces.l0 k a0 ([] : List Int) false 0
theorem gronx_zzSpaces.mono_l : ∀ k, (∀ y0 y1 y2 y3, LeO (gronx_zzSpaces.l0 k y0 y1 y2 y3) (gronx_zzSpaces.l0 (k + 1) y0 y1 y2 y3)) ∧ (∀ y0 y1 y2 y3 y4, LeO (gronx_zzSpaces.j1 k y0 y1 y2 y3 y4) (gronx_zzSpaces.j1 (k + 1) y0 y1 y2 y3 y4))
  | 0 => ⟨fun _ _ _ _ r h => by simp [gronx_zzSpaces.l0] at h, fun _ _ _ _ _ r h => by simp [gronx_zzSpaces.j1] at h⟩
  | k + 1 => by
    obtain ⟨ih0, ih1⟩ := gronx_zzSpaces.mono_l k
    refine ⟨?_, ?_⟩
    · intro y0 y1 y2 y3
      unfold gronx_zzSpaces.l0
      repeat' first
      | (with_reducible exact ih0 _ _ _ _)
      | (with_reducible exact ih1 _ _ _ _ _)
      | (with_reducible exact LeO.refl _)
      | (with_reducible exact LeO.none _)
      | (with_reducible refine LeO.ite ?_ ?_)
      | (with_reducible refine LeO.bind ?_ (fun _ => ?_))
      | exact ih0 _ _ _ _
      | exact ih1 _ _ _ _ _
      | exact LeO.none _
      | refine LeO.ite ?_ ?_
      | refine LeO.bind ?_ (fun _ => ?_)
    · intro y0 y1 y2 y3 y4
      unfold gronx_zzSpaces.j1
      repeat' first
      | (with_reducible exact ih0 _ _ _ _)
      | (with_reducible exact ih1 _ _ _ _ _)
      | (with_reducible exact LeO.refl _)
      | (with_reducible exact LeO.none _)
      | (with_reducible refine LeO.ite ?_ ?_)
      | (with_reducible refine LeO.bind ?_ (fun _ => ?_))
      | exact ih0 _ _ _ _
      | exact ih1 _ _ _ _ _
      | exact LeO.none _
      | refine LeO.ite ?_ ?_
      | refine LeO.bind ?_ (fun _ => ?_)
theorem gronx_zzSpaces.mono : ∀ a0 k, LeO (gronx_zzSpaces.f k a0) (gronx_zzSpaces.f (k + 1) a0) := by
  intro a0 k
  obtain ⟨ih0, ih1⟩ := gronx_zzSpaces.mono_l k
  unfold gronx_zzSpaces.f
  repeat' first
      | (with_reducible exact ih0 _ _ _ _)
      | (with_reducible exact ih1 _ _ _ _ _)
      | (with_reducible exact LeO.refl _)
      | (with_reducible exact LeO.none _)
      | (with_reducible refine LeO.ite ?_ ?_)
      | (with_reducible refine LeO.bind ?_ (fun _ => ?_))
      | exact ih0 _ _ _ _
      | exact ih1 _ _ _ _ _
      | exact LeO.none _
      | refine LeO.ite ?_ ?_
      | refine LeO.bind ?_ (fun _ => ?_)
set_option maxHeartbeats 8000000 in
set_option maxRecDepth 100000 in
theorem gronx_zzSpaces.calls (k : Nat) (a0 : ByteArray) (r : ByteArray) (w : World) (h : gronx_zzSpaces.f k a0 = some r) :
    Calls Tryz.prog 76 #[.string a0] w fun e w' => e = .returned (.string r) ∧ Below w.heap.size w w' := by
  have HB := Aside0.mk (Below.refl w.heap.size w)
  have H : (gronx_zzSpaces.l0 k a0 ([] : List Int) false 0) = some r := h
  clear h
  have H' := Aside0.mk H
  clear H
  go_enter Tryz.func76, Tryz.ntmps76
  go_wp2
  go_loopg [3, 4, 5] k (fun kq v3 v4 v5 w' => ∃ (x3_1 : List Int) (x4_1 : Bool) (x5_1 : Int), v4 = .bool x4_1 ∧ v5 = .int .i64 x5_1 ∧ Aside0 (gronx_zzSpaces.l0 kq a0 x3_1 x4_1 x5_1 = some r) ∧ Aside0 (kq ≤ k) ∧ Aside0 (Kd.R (Kd.int .u8) 5 w' w.heap.size (fun _ => True) v3 x3_1) ∧ Aside0 (Below w.heap.size w w'))
  case atStart => exact ⟨(([] : List Int)), (false), (0), (by first | rfl | (simp; done) | (simp [*]; done)), (by first | rfl | (simp; done) | (simp [*]; done)), H', ⟨Nat.le_refl _⟩, ⟨by first | exact Kd.R_nil _ _ _ _ _ | exact Kd.N_nil _ _ _ _ _ | exact Kd.V_nil _ _ _ _ _ | exact Kd.Q_nil _ _ _ _ _ | exact Kd.S_nil _ _ _ _ _⟩, ⟨by repeat (first | (with_reducible first | exact HB.out | apply below_alloc | apply pw_below_drewN | apply below_drew1) | exact HB.out)⟩⟩
  case round =>
    clear H'
    obtain ⟨x3_1, x4_1, x5_1, rfl, rfl, HA, HK1, HO_3, HB⟩ := hrel
    cases gk with
    | zero => exact absurd HA.out (by simp [gronx_zzSpaces.l0])
    | succ k1 =>
      have H := HA.out
      clear HA
      simp only [gronx_zzSpaces.l0] at H
      by_cases c2 : x5_1 < (a0.size : Int)
      · rw [if_pos c2] at H
        have c2b0 : decide (x5_1 < (a0.size : Int)) = true := decide_eq_true c2
        clear c2
        by_cases c3 : 0 ≤ x5_1
        · rw [if_pos c3] at H
          have c3b0 : decide (0 ≤ x5_1) = true := decide_eq_true c3
          clear c3
          have HC5 := Aside0.mk H
          clear H
          have p4 : 0 ≤ (x5_1 : Int) := of_decide_eq_true (by first | (with_reducible assumption) | assumption)
          have q4 : x5_1 < (a0.size : Int) := of_decide_eq_true (by first | (with_reducible assumption) | assumption)
          have hx4 := bt_at a0 x5_1
          replace p4 := eq_true p4
          replace q4 := eq_true q4
          go_upto_if 21 with (fail)
          go_cut [21] (fun v21 wc => ∃ (kq : Nat) (x21_4 : Bool), v21 = .bool x21_4 ∧ Aside0 (gronx_zzSpaces.j1 kq a0 x3_1 x4_1 x5_1 x21_4 = some r) ∧ Aside0 (kq ≤ k1) ∧ Aside0 (Kd.R (Kd.int .u8) 5 wc w.heap.size (fun _ => True) u3 x3_1) ∧ Aside0 (Below w.heap.size w wc))
          case first =>
            have H := HC5.out
            clear HC5
            by_cases c6 : (bt a0 x5_1) = 32
            · rw [if_pos c6] at H
              have c6b0 : ((bt a0 x5_1) == 32) = true := beq_iff_eq.mpr c6
              have c6b1 : ((bt a0 x5_1) != 32) = false := bne_eq_false_iff_eq.mpr c6
              clear c6
              (first | rw [c6b0] | (simp only [i64_w, i32_w]; rw [c6b0]) | skip)
              have H' := Aside0.mk H
              clear H
              go_wp2
              go_meet
              case rel => exact ⟨_, (((bt a0 x5_1) == 32)), (by first | rfl | (simp; done) | (simp [*]; done)), H', ⟨by have := HK1.out; first | omega | exact Nat.le_refl _⟩, ⟨by (with_reducible repeat (first | apply Kd.R_alloc | apply Kd.R_drewN | apply Kd.R_drew)); exact HO_3.out⟩, ⟨by repeat (first | (with_reducible first | exact HB.out | apply below_alloc | apply pw_below_drewN | apply below_drew1) | exact HB.out)⟩⟩
            · rw [if_neg c6] at H
              have c6b0 : ((bt a0 x5_1) == 32) = false := beq_eq_false_iff_ne.mpr c6
              have c6b1 : ((bt a0 x5_1) != 32) = true := bne_iff_ne.mpr c6
              (first | rw [c6b0] | (simp only [i64_w, i32_w]; rw [c6b0]) | skip)
              by_cases c7 : (bt a0 x5_1) = 9
              · rw [if_pos c7] at H
                have c7b0 : ((bt a0 x5_1) == 9) = true := beq_iff_eq.mpr c7
                have c7b1 : ((bt a0 x5_1) != 9) = false := bne_eq_false_iff_eq.mpr c7
                clear c7
                have H' := Aside0.mk H
                clear H
                go_wp2
                go_meet
                case rel => exact ⟨_, (((bt a0 x5_1) == 9)), (by first | rfl | (simp; done) | (simp [*]; done)), H', ⟨by have := HK1.out; first | omega | exact Nat.le_refl _⟩, ⟨by (with_reducible repeat (first | apply Kd.R_alloc | apply Kd.R_drewN | apply Kd.R_drew)); exact HO_3.out⟩, ⟨by repeat (first | (with_reducible first | exact HB.out | apply below_alloc | apply pw_below_drewN | apply below_drew1) | exact HB.out)⟩⟩
              · rw [if_neg c7] at H
                have c7b0 : ((bt a0 x5_1) == 9) = false := beq_eq_false_iff_ne.mpr c7
                have c7b1 : ((bt a0 x5_1) != 9) = true := bne_iff_ne.mpr c7
                by_cases c8 : (bt a0 x5_1) = 10
                · rw [if_pos c8] at H
                  have c8b0 : ((bt a0 x5_1) == 10) = true := beq_iff_eq.mpr c8
                  have c8b1 : ((bt a0 x5_1) != 10) = false := bne_eq_false_iff_eq.mpr c8
                  clear c8
                  have H' := Aside0.mk H
                  clear H
                  go_wp2
                  go_meet
                  case rel => exact ⟨_, (((bt a0 x5_1) == 10)), (by first | rfl | (simp; done) | (simp [*]; done)), H', ⟨by have := HK1.out; first | omega | exact Nat.le_refl _⟩, ⟨by (with_reducible repeat (first | apply Kd.R_alloc | apply Kd.R_drewN | apply Kd.R_drew)); exact HO_3.out⟩, ⟨by repeat (first | (with_reducible first | exact HB.out | apply below_alloc | apply pw_below_drewN | apply below_drew1) | exact HB.out)⟩⟩
                · rw [if_neg c8] at H
                  have c8b0 : ((bt a0 x5_1) == 10) = false := beq_eq_false_iff_ne.mpr c8
                  have c8b1 : ((bt a0 x5_1) != 10) = true := bne_iff_ne.mpr c8
                  by_cases c9 : (bt a0 x5_1) = 12
                  · rw [if_pos c9] at H
                    have c9b0 : ((bt a0 x5_1) == 12) = true := beq_iff_eq.mpr c9
                    have c9b1 : ((bt a0 x5_1) != 12) = false := bne_eq_false_iff_eq.mpr c9
                    clear c9
                    have H' := Aside0.mk H
                    clear H
                    go_wp2
                    go_meet
                    case rel => exact ⟨_, (((bt a0 x5_1) == 12)), (by first | rfl | (simp; done) | (simp [*]; done)), H', ⟨by have := HK1.out; first | omega | exact Nat.le_refl _⟩, ⟨by (with_reducible repeat (first | apply Kd.R_alloc | apply Kd.R_drewN | apply Kd.R_drew)); exact HO_3.out⟩, ⟨by repeat (first | (with_reducible first | exact HB.out | apply below_alloc | apply pw_below_drewN | apply below_drew1) | exact HB.out)⟩⟩
                  · rw [if_neg c9] at H
                    have c9b0 : ((bt a0 x5_1) == 12) = false := beq_eq_false_iff_ne.mpr c9
                    have c9b1 : ((bt a0 x5_1) != 12) = true := bne_iff_ne.mpr c9
                    have H' := Aside0.mk H
                    clear H
                    go_wp2
                    go_meet
                    case rel => exact ⟨_, (((bt a0 x5_1) == 13)), (by first | rfl | (simp; done) | (simp [*]; done)), H', ⟨by have := HK1.out; first | omega | exact Nat.le_refl _⟩, ⟨by (with_reducible repeat (first | apply Kd.R_alloc | apply Kd.R_drewN | apply Kd.R_drew)); exact HO_3.out⟩, ⟨by repeat (first | (with_reducible first | exact HB.out | apply below_alloc | apply pw_below_drewN | apply below_drew1) | exact HB.out)⟩⟩
          case rest =>
            clear HC5
            try clear c2
            try clear c2b0
            try clear p2
            try clear c3
            try clear c3b0
            try clear p4
            try clear q4
            try clear hx4
            try clear c6
            try clear c6b0
            try clear c6b1
            try clear c7
            try clear c7b0
            try clear c7b1
            try clear c8
            try clear c8b0
            try clear c8b1
            try clear c9
            try clear c9b0
            try clear c9b1
            try clear p4
            try clear q4
            obtain ⟨kq, x21_4, rfl, HA, HJ4, HO_3, HB⟩ := hcut
            cases kq with
            | zero => exact absurd HA.out (by simp [gronx_zzSpaces.j1])
            | succ kj4 =>
              have H := HA.out
              clear HA
              simp only [gronx_zzSpaces.j1] at H
              by_cases c10 : x21_4 = true
              · subst c10
                have H1 : (if x4_1 = true then (gronx_zzSpaces.l0 kj4 a0 x3_1 true (wrap64 (x5_1 + 1))) else (if x3_1.length < 140737488355328 then (gronx_zzSpaces.l0 kj4 a0 (x3_1 ++ [32]) true (wrap64 (x5_1 + 1))) else (none))) = some r := by rw [if_pos rfl] at H; exact H
                clear H
                have H := H1
                clear H1
                by_cases c11 : x4_1 = true
                · subst c11
                  have H1 : (gronx_zzSpaces.l0 kj4 a0 x3_1 true (wrap64 (x5_1 + 1))) = some r := by rw [if_pos rfl] at H; exact H
                  clear H
                  have H := H1
                  clear H1
                  have H' := Aside0.mk H
                  clear H
                  go_wp2
                  go_roundg kj4
                  case measure => have := HK1.out; have := HJ4.out; omega
                  case rel => exact ⟨(x3_1), (true), (wrap64 (x5_1 + 1)), (by first | rfl | (simp; done) | (simp [*]; done)), (by first | rfl | (simp; done) | (simp [*]; done)), H', ⟨by have := HK1.out; have := HJ4.out; omega⟩, ⟨by (with_reducible repeat (first | apply Kd.R_alloc | apply Kd.R_drewN | apply Kd.R_drew)); exact HO_3.out⟩, ⟨by repeat (first | (with_reducible first | exact HB.out | apply below_alloc | apply pw_below_drewN | apply below_drew1) | exact HB.out)⟩⟩
                · replace c11 := Bool.eq_false_iff.mpr c11
                  subst c11
                  have H1 : (if x3_1.length < 140737488355328 then (gronx_zzSpaces.l0 kj4 a0 (x3_1 ++ [32]) true (wrap64 (x5_1 + 1))) else (none)) = some r := by rw [if_neg (show ¬ (false = true) by decide)] at H; exact H
                  clear H
                  have H := H1
                  clear H1
                  by_cases c12 : x3_1.length < 140737488355328
                  · rw [if_pos c12] at H
                    have LMc12 := Aside0.mk c12
                    clear c12
                    obtain ⟨y202, hy202⟩ : ∃ y_ : List Int, y_ = (x3_1 ++ [32]) := ⟨_, rfl⟩
                    replace H : (gronx_zzSpaces.l0 kj4 a0 y202 true (wrap64 (x5_1 + 1))) = some r := by first | (rw [hy202]; with_reducible exact H) | (have H2_ := (Option.bind_some _ _).symm.trans H; rw [hy202]; with_reducible exact H2_) | (have H2_ := (Option.bind_some _ _).symm.trans H; with_reducible exact H2_) | with_reducible exact H | (rw [hy202]; exact H) | exact H
                    have Ny202 := Aside0.mk hy202
                    clear hy202
                    have H' := Aside0.mk H
                    clear H
                    go_wp2_with (first | ((with_reducible refine gate_builtin (b := .append) (xs := #[.tmp 29, .tmp 30]) rfl ?_); at_builtin; refine Kd.R_append (Kd.int .u8) (w0 := w) w.heap.size rfl (.tmp 29) (.tmp 30) 78 5 (.int .u8 0) 1 rfl Tryz.underlying78 info5 rfl (by decide) (by omega) u3 x3_1 32 [.int .u8 32] (fun _ => True) (fun _ => False) rfl rfl ?aP (fun _ hk => hk.elim) ?aF ?aO ?aB ?aS ?aL ?_; (case aP => exact rfl); (case aB => exact (by repeat (first | (with_reducible first | exact HB.out | apply below_alloc | apply pw_below_drewN | apply below_drew1) | exact HB.out))); (case aF => exact (fun _ _ => trivial)); (case aO => exact (by (with_reducible repeat (first | apply Kd.R_alloc | apply Kd.R_drewN | apply Kd.R_drew)); exact HO_3.out)); (case aS => exact (below_size (by repeat (first | (with_reducible first | exact HB.out | apply below_alloc | apply pw_below_drewN | apply below_drew1) | exact HB.out)))); (case aL => have := LMc12.out; omega); intro v203 w13 ho hb hg hat; rw [← Ny202.out] at ho; have n0_ := Aside0.mk (hb); have n1_ := Aside0.mk (ho); clear HB; clear HO_3; have HB := n0_; have HO204 := n1_; clear n0_ n1_; clear ho hb hg hat))
                    go_roundg kj4
                    case measure => have := HK1.out; have := HJ4.out; omega
                    case rel => exact ⟨(y202), (true), (wrap64 (x5_1 + 1)), (by first | rfl | (simp; done) | (simp [*]; done)), (by first | rfl | (simp; done) | (simp [*]; done)), H', ⟨by have := HK1.out; have := HJ4.out; omega⟩, ⟨by (with_reducible repeat (first | apply Kd.R_alloc | apply Kd.R_drewN | apply Kd.R_drew)); exact HO204.out⟩, ⟨by repeat (first | (with_reducible first | exact HB.out | apply below_alloc | apply pw_below_drewN | apply below_drew1) | exact HB.out)⟩⟩
                  · rw [if_neg c12] at H
                    exact absurd H (by simp)
              · replace c10 := Bool.eq_false_iff.mpr c10
                subst c10
                have H1 : (if 0 ≤ x5_1 then (if x5_1 < (a0.size : Int) then (if x3_1.length < 140737488355328 then (gronx_zzSpaces.l0 kj4 a0 (x3_1 ++ [bt a0 x5_1]) false (wrap64 (x5_1 + 1))) else (none)) else (none)) else (none)) = some r := by rw [if_neg (show ¬ (false = true) by decide)] at H; exact H
                clear H
                have H := H1
                clear H1
                by_cases c14 : 0 ≤ x5_1
                · rw [if_pos c14] at H
                  have c14b0 : decide (0 ≤ x5_1) = true := decide_eq_true c14
                  clear c14
                  by_cases c15 : x5_1 < (a0.size : Int)
                  · rw [if_pos c15] at H
                    have c15b0 : decide (x5_1 < (a0.size : Int)) = true := decide_eq_true c15
                    clear c15
                    by_cases c17 : x3_1.length < 140737488355328
                    · rw [if_pos c17] at H
                      have LMc17 := Aside0.mk c17
                      clear c17
                      obtain ⟨y205, hy205⟩ : ∃ y_ : List Int, y_ = (x3_1 ++ [bt a0 x5_1]) := ⟨_, rfl⟩
                      replace H : (gronx_zzSpaces.l0 kj4 a0 y205 false (wrap64 (x5_1 + 1))) = some r := by first | (rw [hy205]; with_reducible exact H) | (have H2_ := (Option.bind_some _ _).symm.trans H; rw [hy205]; with_reducible exact H2_) | (have H2_ := (Option.bind_some _ _).symm.trans H; with_reducible exact H2_) | with_reducible exact H | (rw [hy205]; exact H) | exact H
                      have Ny205 := Aside0.mk hy205
                      clear hy205
                      have H' := Aside0.mk H
                      clear H
                      have p16 : 0 ≤ (x5_1 : Int) := of_decide_eq_true (by first | (with_reducible assumption) | assumption)
                      have q16 : x5_1 < (a0.size : Int) := of_decide_eq_true (by first | (with_reducible assumption) | assumption)
                      have hx16 := bt_at a0 x5_1
                      replace p16 := eq_true p16
                      replace q16 := eq_true q16
                      go_wp2_with (first | ((with_reducible refine gate_builtin (b := .append) (xs := #[.tmp 15, .tmp 19]) rfl ?_); at_builtin; refine Kd.R_append (Kd.int .u8) (w0 := w) w.heap.size rfl (.tmp 15) (.tmp 19) 78 5 (.int .u8 0) 1 rfl Tryz.underlying78 info5 rfl (by decide) (by omega) u3 x3_1 (bt a0 x5_1) [.int .u8 (bt a0 x5_1)] (fun _ => True) (fun _ => False) rfl rfl ?aP (fun _ hk => hk.elim) ?aF ?aO ?aB ?aS ?aL ?_; (case aP => exact rfl); (case aB => exact (by repeat (first | (with_reducible first | exact HB.out | apply below_alloc | apply pw_below_drewN | apply below_drew1) | exact HB.out))); (case aF => exact (fun _ _ => trivial)); (case aO => exact (by (with_reducible repeat (first | apply Kd.R_alloc | apply Kd.R_drewN | apply Kd.R_drew)); exact HO_3.out)); (case aS => exact (below_size (by repeat (first | (with_reducible first | exact HB.out | apply below_alloc | apply pw_below_drewN | apply below_drew1) | exact HB.out)))); (case aL => have := LMc17.out; omega); intro v206 w18 ho hb hg hat; rw [← Ny205.out] at ho; have n0_ := Aside0.mk (hb); have n1_ := Aside0.mk (ho); clear HB; clear HO_3; have HB := n0_; have HO207 := n1_; clear n0_ n1_; clear ho hb hg hat))
                      go_roundg kj4
                      case measure => have := HK1.out; have := HJ4.out; omega
                      case rel => exact ⟨(y205), (false), (wrap64 (x5_1 + 1)), (by first | rfl | (simp; done) | (simp [*]; done)), (by first | rfl | (simp; done) | (simp [*]; done)), H', ⟨by have := HK1.out; have := HJ4.out; omega⟩, ⟨by (with_reducible repeat (first | apply Kd.R_alloc | apply Kd.R_drewN | apply Kd.R_drew)); exact HO207.out⟩, ⟨by repeat (first | (with_reducible first | exact HB.out | apply below_alloc | apply pw_below_drewN | apply below_drew1) | exact HB.out)⟩⟩
                    · rw [if_neg c17] at H
                      exact absurd H (by simp)
                  · rw [if_neg c15] at H
                    exact absurd H (by simp)
                · rw [if_neg c14] at H
                  exact absurd H (by simp)
        · rw [if_neg c3] at H
          exact absurd H (by simp)
      · rw [if_neg c2] at H
        have c2b0 : decide (x5_1 < (a0.size : Int)) = false := decide_eq_false c2
        clear c2
        obtain rfl := Option.some.inj H
        have hcv19 := own_string (P := Tryz.prog) Tryz.underlying78 Tryz.underlying5 Tryz.underlying9 (Kd.own_of_R HO_3.out)
        go_wp2
        go_ret
        exact ⟨by first | rfl | (simp [errW_none, errW_some] <;> rfl) | (simp [*, errW_none, errW_some] <;> rfl), by repeat (first | (with_reducible first | exact HB.out | apply below_alloc | apply pw_below_drewN | apply below_drew1) | exact HB.out)⟩
end Go.Proofs.YtkhgeonlohafgaaGreatDoor.Core
namespace Go.Proofs.YtkhgeonlohafgaaGreatDoor.Core
open Go.RowKit Go.Proofs.YtkhgeonlohafgaaGreatDoorW.PrintWords Go.Proofs.YtkhgeonlohafgaaGreatDoorW.PrintLast Go.Proofs.YtkhgeonlohafgaaGreatDoorW.PrintMore
attribute [local go_sem] max2_int min2_int max_two min_two max_three min_three max_four min_four   -- for this text's walks alone
set_option linter.unusedVariables false
set_option linter.unusedSimpArgs false
def gronx_literal.f (a0 : ByteArray) : Option (ByteArray) := if a0.toList = ([83, 85, 78] : List UInt8) then (some (⟨#[48]⟩ : ByteArray)) else (if a0.toList = ([77, 79, 78] : List UInt8) then (some (⟨#[49]⟩ : ByteArray)) else (if a0.toList = ([84, 85, 69] : List UInt8) then (some (⟨#[50]⟩ : ByteArray)) else (if a0.toList = ([87, 69, 68] : List UInt8) then (some (⟨#[51]⟩ : ByteArray)) else (if a0.toList = ([84, 72, 85] : List UInt8) then (some (⟨#[52]⟩ : ByteArray)) else (if a0.toList = ([70, 82, 73] : List UInt8) then (some (⟨#[53]⟩ : ByteArray)) else (if a0.toList = ([83, 65, 84] : List UInt8) then (some (⟨#[54]⟩ : ByteArray)) else (if a0.toList = ([74, 65, 78] : List UInt8) then (some (⟨#[49]⟩ : ByteArray)) else (if a0.toList = ([70, 69, 66] : List UInt8) then (some (⟨#[50]⟩ : ByteArray)) else (if a0.toList = ([77, 65, 82] : List UInt8) then (some (⟨#[51]⟩ : ByteArray)) else (if a0.toList = ([65, 80, 82] : List UInt8) then (some (⟨#[52]⟩ : ByteArray)) else (if a0.toList = ([77, 65, 89] : List UInt8) then (some (⟨#[53]⟩ : ByteArray)) else (if a0.toList = ([74, 85, 78] : List UInt8) then (some (⟨#[54]⟩ : ByteArray)) else (if a0.toList = ([74, 85, 76] : List UInt8) then (some (⟨#[55]⟩ : ByteArray)) else (if a0.toList = ([65, 85, 71] : List UInt8) then (some (⟨#[56]⟩ : ByteArray)) else (if a0.toList = ([83, 69, 80] : List UInt8) then (some (⟨#[57]⟩ : ByteArray)) else (if a0.toList = ([79, 67, 84] : List UInt8) then (some (⟨#[49, 48]⟩ : ByteArray)) else (if a0.toList = ([78, 79, 86] : List UInt8) then (some (⟨#[49, 49]⟩ : ByteArray)) else (if a0.toList = ([68, 69, 67] : List UInt8) then (some (⟨#[49, 50]⟩ : ByteArray)) else (some (⟨#[]⟩ : ByteArray))))))))))))))))))))
set_option maxHeartbeats 8000000 in
set_option maxRecDepth 100000 in
theorem gronx_literal.calls (a0 : ByteArray) (r : ByteArray) (w : World) (h : gronx_literal.f a0 = some r) :
    Calls Tryz.prog 109 #[.string a0] w fun e w' => e = .returned (.string r) ∧ Drawn0 w w' := by
  have H : (if a0.toList = ([83, 85, 78] : List UInt8) then (some (⟨#[48]⟩ : ByteArray)) else (if a0.toList = ([77, 79, 78] : List UInt8) then (some (⟨#[49]⟩ : ByteArray)) else (if a0.toList = ([84, 85, 69] : List UInt8) then (some (⟨#[50]⟩ : ByteArray)) else (if a0.toList = ([87, 69, 68] : List UInt8) then (some (⟨#[51]⟩ : ByteArray)) else (if a0.toList = ([84, 72, 85] : List UInt8) then (some (⟨#[52]⟩ : ByteArray)) else (if a0.toList = ([70, 82, 73] : List UInt8) then (some (⟨#[53]⟩ : ByteArray)) else (if a0.toList = ([83, 65, 84] : List UInt8) then (some (⟨#[54]⟩ : ByteArray)) else (if a0.toList = ([74, 65, 78] : List UInt8) then (some (⟨#[49]⟩ : ByteArray)) else (if a0.toList = ([70, 69, 66] : List UInt8) then (some (⟨#[50]⟩ : ByteArray)) else (if a0.toList = ([77, 65, 82] : List UInt8) then (some (⟨#[51]⟩ : ByteArray)) else (if a0.toList = ([65, 80, 82] : List UInt8) then (some (⟨#[52]⟩ : ByteArray)) else (if a0.toList = ([77, 65, 89] : List UInt8) then (some (⟨#[53]⟩ : ByteArray)) else (if a0.toList = ([74, 85, 78] : List UInt8) then (some (⟨#[54]⟩ : ByteArray)) else (if a0.toList = ([74, 85, 76] : List UInt8) then (some (⟨#[55]⟩ : ByteArray)) else (if a0.toList = ([65, 85, 71] : List UInt8) then (some (⟨#[56]⟩ : ByteArray)) else (if a0.toList = ([83, 69, 80] : List UInt8) then (some (⟨#[57]⟩ : ByteArray)) else (if a0.toList = ([79, 67, 84] : List UInt8) then (some (⟨#[49, 48]⟩ : ByteArray)) else (if a0.toList = ([78, 79, 86] : List UInt8) then (some (⟨#[49, 49]⟩ : ByteArray)) else (if a0.toList = ([68, 69, 67] : List UInt8) then (some (⟨#[49, 50]⟩ : ByteArray)) else (some (⟨#[]⟩ : ByteArray))))))))))))))))))))) = some r := h
  clear h
  by_cases c2 : a0.toList = ([83, 85, 78] : List UInt8)
  · rw [if_pos c2] at H
    have c2b0 : (a0.toList == ([83, 85, 78] : List UInt8)) = true := beq_iff_eq.mpr c2
    have c2b1 : (a0.toList != ([83, 85, 78] : List UInt8)) = false := bne_eq_false_iff_eq.mpr c2
    clear c2
    obtain rfl := Option.some.inj H
    go_enter Tryz.func109, Tryz.ntmps109
    go_wp2
    go_ret
    exact ⟨by first | rfl | (simp; done) | (simp [*]; done), by repeat (first | exact Drawn0.refl _ | apply Drawn0.step)⟩
  · rw [if_neg c2] at H
    have c2b0 : (a0.toList == ([83, 85, 78] : List UInt8)) = false := beq_eq_false_iff_ne.mpr c2
    have c2b1 : (a0.toList != ([83, 85, 78] : List UInt8)) = true := bne_iff_ne.mpr c2
    by_cases c3 : a0.toList = ([77, 79, 78] : List UInt8)
    · rw [if_pos c3] at H
      have c3b0 : (a0.toList == ([77, 79, 78] : List UInt8)) = true := beq_iff_eq.mpr c3
      have c3b1 : (a0.toList != ([77, 79, 78] : List UInt8)) = false := bne_eq_false_iff_eq.mpr c3
      clear c3
      obtain rfl := Option.some.inj H
      go_enter Tryz.func109, Tryz.ntmps109
      go_wp2
      go_ret
      exact ⟨by first | rfl | (simp; done) | (simp [*]; done), by repeat (first | exact Drawn0.refl _ | apply Drawn0.step)⟩
    · rw [if_neg c3] at H
      have c3b0 : (a0.toList == ([77, 79, 78] : List UInt8)) = false := beq_eq_false_iff_ne.mpr c3
      have c3b1 : (a0.toList != ([77, 79, 78] : List UInt8)) = true := bne_iff_ne.mpr c3
      by_cases c4 : a0.toList = ([84, 85, 69] : List UInt8)
      · rw [if_pos c4] at H
        have c4b0 : (a0.toList == ([84, 85, 69] : List UInt8)) = true := beq_iff_eq.mpr c4
        have c4b1 : (a0.toList != ([84, 85, 69] : List UInt8)) = false := bne_eq_false_iff_eq.mpr c4
        clear c4
        obtain rfl := Option.some.inj H
        go_enter Tryz.func109, Tryz.ntmps109
        go_wp2
        go_ret
        exact ⟨by first | rfl | (simp; done) | (simp [*]; done), by repeat (first | exact Drawn0.refl _ | apply Drawn0.step)⟩
      · rw [if_neg c4] at H
        have c4b0 : (a0.toList == ([84, 85, 69] : List UInt8)) = false := beq_eq_false_iff_ne.mpr c4
        have c4b1 : (a0.toList != ([84, 85, 69] : List UInt8)) = true := bne_iff_ne.mpr c4
        by_cases c5 : a0.toList = ([87, 69, 68] : List UInt8)
        · rw [if_pos c5] at H
          have c5b0 : (a0.toList == ([87, 69, 68] : List UInt8)) = true := beq_iff_eq.mpr c5
          have c5b1 : (a0.toList != ([87, 69, 68] : List UInt8)) = false := bne_eq_false_iff_eq.mpr c5
          clear c5
          obtain rfl := Option.some.inj H
          go_enter Tryz.func109, Tryz.ntmps109
          go_wp2
          go_ret
          exact ⟨by first | rfl | (simp; done) | (simp [*]; done), by repeat (first | exact Drawn0.refl _ | apply Drawn0.step)⟩
        · rw [if_neg c5] at H
          have c5b0 : (a0.toList == ([87, 69, 68] : List UInt8)) = false := beq_eq_false_iff_ne.mpr c5
          have c5b1 : (a0.toList != ([87, 69, 68] : List UInt8)) = true := bne_iff_ne.mpr c5
          by_cases c6 : a0.toList = ([84, 72, 85] : List UInt8)
          · rw [if_pos c6] at H
            have c6b0 : (a0.toList == ([84, 72, 85] : List UInt8)) = true := beq_iff_eq.mpr c6
            have c6b1 : (a0.toList != ([84, 72, 85] : List UInt8)) = false := bne_eq_false_iff_eq.mpr c6
            clear c6
            obtain rfl := Option.some.inj H
            go_enter Tryz.func109, Tryz.ntmps109
            go_wp2
            go_ret
            exact ⟨by first | rfl | (simp; done) | (simp [*]; done), by repeat (first | exact Drawn0.refl _ | apply Drawn0.step)⟩
          · rw [if_neg c6] at H
            have c6b0 : (a0.toList == ([84, 72, 85] : List UInt8)) = false := beq_eq_false_iff_ne.mpr c6
            have c6b1 : (a0.toList != ([84, 72, 85] : List UInt8)) = true := bne_iff_ne.mpr c6
            by_cases c7 : a0.toList = ([70, 82, 73] : List UInt8)
            · rw [if_pos c7] at H
              have c7b0 : (a0.toList == ([70, 82, 73] : List UInt8)) = true := beq_iff_eq.mpr c7
              have c7b1 : (a0.toList != ([70, 82, 73] : List UInt8)) = false := bne_eq_false_iff_eq.mpr c7
              clear c7
              obtain rfl := Option.some.inj H
              go_enter Tryz.func109, Tryz.ntmps109
              go_wp2
              go_ret
              exact ⟨by first | rfl | (simp; done) | (simp [*]; done), by repeat (first | exact Drawn0.refl _ | apply Drawn0.step)⟩
            · rw [if_neg c7] at H
              have c7b0 : (a0.toList == ([70, 82, 73] : List UInt8)) = false := beq_eq_false_iff_ne.mpr c7
              have c7b1 : (a0.toList != ([70, 82, 73] : List UInt8)) = true := bne_iff_ne.mpr c7
              by_cases c8 : a0.toList = ([83, 65, 84] : List UInt8)
              · rw [if_pos c8] at H
                have c8b0 : (a0.toList == ([83, 65, 84] : List UInt8)) = true := beq_iff_eq.mpr c8
                have c8b1 : (a0.toList != ([83, 65, 84] : List UInt8)) = false := bne_eq_false_iff_eq.mpr c8
                clear c8
                obtain rfl := Option.some.inj H
                go_enter Tryz.func109, Tryz.ntmps109
                go_wp2
                go_ret
                exact ⟨by first | rfl | (simp; done) | (simp [*]; done), by repeat (first | exact Drawn0.refl _ | apply Drawn0.step)⟩
              · rw [if_neg c8] at H
                have c8b0 : (a0.toList == ([83, 65, 84] : List UInt8)) = false := beq_eq_false_iff_ne.mpr c8
                have c8b1 : (a0.toList != ([83, 65, 84] : List UInt8)) = true := bne_iff_ne.mpr c8
                by_cases c9 : a0.toList = ([74, 65, 78] : List UInt8)
                · rw [if_pos c9] at H
                  have c9b0 : (a0.toList == ([74, 65, 78] : List UInt8)) = true := beq_iff_eq.mpr c9
                  have c9b1 : (a0.toList != ([74, 65, 78] : List UInt8)) = false := bne_eq_false_iff_eq.mpr c9
                  clear c9
                  obtain rfl := Option.some.inj H
                  go_enter Tryz.func109, Tryz.ntmps109
                  go_wp2
                  go_ret
                  exact ⟨by first | rfl | (simp; done) | (simp [*]; done), by repeat (first | exact Drawn0.refl _ | apply Drawn0.step)⟩
                · rw [if_neg c9] at H
                  have c9b0 : (a0.toList == ([74, 65, 78] : List UInt8)) = false := beq_eq_false_iff_ne.mpr c9
                  have c9b1 : (a0.toList != ([74, 65, 78] : List UInt8)) = true := bne_iff_ne.mpr c9
                  by_cases c10 : a0.toList = ([70, 69, 66] : List UInt8)
                  · rw [if_pos c10] at H
                    have c10b0 : (a0.toList == ([70, 69, 66] : List UInt8)) = true := beq_iff_eq.mpr c10
                    have c10b1 : (a0.toList != ([70, 69, 66] : List UInt8)) = false := bne_eq_false_iff_eq.mpr c10
                    clear c10
                    obtain rfl := Option.some.inj H
                    go_enter Tryz.func109, Tryz.ntmps109
                    go_wp2
                    go_ret
                    exact ⟨by first | rfl | (simp; done) | (simp [*]; done), by repeat (first | exact Drawn0.refl _ | apply Drawn0.step)⟩
                  · rw [if_neg c10] at H
                    have c10b0 : (a0.toList == ([70, 69, 66] : List UInt8)) = false := beq_eq_false_iff_ne.mpr c10
                    have c10b1 : (a0.toList != ([70, 69, 66] : List UInt8)) = true := bne_iff_ne.mpr c10
                    by_cases c11 : a0.toList = ([77, 65, 82] : List UInt8)
                    · rw [if_pos c11] at H
                      have c11b0 : (a0.toList == ([77, 65, 82] : List UInt8)) = true := beq_iff_eq.mpr c11
                      have c11b1 : (a0.toList != ([77, 65, 82] : List UInt8)) = false := bne_eq_false_iff_eq.mpr c11
                      clear c11
                      obtain rfl := Option.some.inj H
                      go_enter Tryz.func109, Tryz.ntmps109
                      go_wp2
                      go_ret
                      exact ⟨by first | rfl | (simp; done) | (simp [*]; done), by repeat (first | exact Drawn0.refl _ | apply Drawn0.step)⟩
                    · rw [if_neg c11] at H
                      have c11b0 : (a0.toList == ([77, 65, 82] : List UInt8)) = false := beq_eq_false_iff_ne.mpr c11
                      have c11b1 : (a0.toList != ([77, 65, 82] : List UInt8)) = true := bne_iff_ne.mpr c11
                      by_cases c12 : a0.toList = ([65, 80, 82] : List UInt8)
                      · rw [if_pos c12] at H
                        have c12b0 : (a0.toList == ([65, 80, 82] : List UInt8)) = true := beq_iff_eq.mpr c12
                        have c12b1 : (a0.toList != ([65, 80, 82] : List UInt8)) = false := bne_eq_false_iff_eq.mpr c12
                        clear c12
                        obtain rfl := Option.some.inj H
                        go_enter Tryz.func109, Tryz.ntmps109
                        go_wp2
                        go_ret
                        exact ⟨by first | rfl | (simp; done) | (simp [*]; done), by repeat (first | exact Drawn0.refl _ | apply Drawn0.step)⟩
                      · rw [if_neg c12] at H
                        have c12b0 : (a0.toList == ([65, 80, 82] : List UInt8)) = false := beq_eq_false_iff_ne.mpr c12
                        have c12b1 : (a0.toList != ([65, 80, 82] : List UInt8)) = true := bne_iff_ne.mpr c12
                        by_cases c13 : a0.toList = ([77, 65, 89] : List UInt8)
                        · rw [if_pos c13] at H
                          have c13b0 : (a0.toList == ([77, 65, 89] : List UInt8)) = true := beq_iff_eq.mpr c13
                          have c13b1 : (a0.toList != ([77, 65, 89] : List UInt8)) = false := bne_eq_false_iff_eq.mpr c13
                          clear c13
                          obtain rfl := Option.some.inj H
                          go_enter Tryz.func109, Tryz.ntmps109
                          go_wp2
                          go_ret
                          exact ⟨by first | rfl | (simp; done) | (simp [*]; done), by repeat (first | exact Drawn0.refl _ | apply Drawn0.step)⟩
                        · rw [if_neg c13] at H
                          have c13b0 : (a0.toList == ([77, 65, 89] : List UInt8)) = false := beq_eq_false_iff_ne.mpr c13
                          have c13b1 : (a0.toList != ([77, 65, 89] : List UInt8)) = true := bne_iff_ne.mpr c13
                          by_cases c14 : a0.toList = ([74, 85, 78] : List UInt8)
                          · rw [if_pos c14] at H
                            have c14b0 : (a0.toList == ([74, 85, 78] : List UInt8)) = true := beq_iff_eq.mpr c14
                            have c14b1 : (a0.toList != ([74, 85, 78] : List UInt8)) = false := bne_eq_false_iff_eq.mpr c14
                            clear c14
                            obtain rfl := Option.some.inj H
                            go_enter Tryz.func109, Tryz.ntmps109
                            go_wp2
                            go_ret
                            exact ⟨by first | rfl | (simp; done) | (simp [*]; done), by repeat (first | exact Drawn0.refl _ | apply Drawn0.step)⟩
                          · rw [if_neg c14] at H
                            have c14b0 : (a0.toList == ([74, 85, 78] : List UInt8)) = false := beq_eq_false_iff_ne.mpr c14
                            have c14b1 : (a0.toList != ([74, 85, 78] : List UInt8)) = true := bne_iff_ne.mpr c14
                            by_cases c15 : a0.toList = ([74, 85, 76] : List UInt8)
                            · rw [if_pos c15] at H
                              have c15b0 : (a0.toList == ([74, 85, 76] : List UInt8)) = true := beq_iff_eq.mpr c15
                              have c15b1 : (a0.toList != ([74, 85, 76] : List UInt8)) = false := bne_eq_false_iff_eq.mpr c15
                              clear c15
                              obtain rfl := Option.some.inj H
                              go_enter Tryz.func109, Tryz.ntmps109
                              go_wp2
                              go_ret
                              exact ⟨by first | rfl | (simp; done) | (simp [*]; done), by repeat (first | exact Drawn0.refl _ | apply Drawn0.step)⟩
                            · rw [if_neg c15] at H
                              have c15b0 : (a0.toList == ([74, 85, 76] : List UInt8)) = false := beq_eq_false_iff_ne.mpr c15
                              have c15b1 : (a0.toList != ([74, 85, 76] : List UInt8)) = true := bne_iff_ne.mpr c15
                              by_cases c16 : a0.toList = ([65, 85, 71] : List UInt8)
                              · rw [if_pos c16] at H
                                have c16b0 : (a0.toList == ([65, 85, 71] : List UInt8)) = true := beq_iff_eq.mpr c16
                                have c16b1 : (a0.toList != ([65, 85, 71] : List UInt8)) = false := bne_eq_false_iff_eq.mpr c16
                                clear c16
                                obtain rfl := Option.some.inj H
                                go_enter Tryz.func109, Tryz.ntmps109
                                go_wp2
                                go_ret
                                exact ⟨by first | rfl | (simp; done) | (simp [*]; done), by repeat (first | exact Drawn0.refl _ | apply Drawn0.step)⟩
                              · rw [if_neg c16] at H
                                have c16b0 : (a0.toList == ([65, 85, 71] : List UInt8)) = false := beq_eq_false_iff_ne.mpr c16
                                have c16b1 : (a0.toList != ([65, 85, 71] : List UInt8)) = true := bne_iff_ne.mpr c16
                                by_cases c17 : a0.toList = ([83, 69, 80] : List UInt8)
                                · rw [if_pos c17] at H
                                  have c17b0 : (a0.toList == ([83, 69, 80] : List UInt8)) = true := beq_iff_eq.mpr c17
                                  have c17b1 : (a0.toList != ([83, 69, 80] : List UInt8)) = false := bne_eq_false_iff_eq.mpr c17
                                  clear c17
                                  obtain rfl := Option.some.inj H
                                  go_enter Tryz.func109, Tryz.ntmps109
                                  go_wp2
                                  go_ret
                                  exact ⟨by first | rfl | (simp; done) | (simp [*]; done), by repeat (first | exact Drawn0.refl _ | apply Drawn0.step)⟩
                                · rw [if_neg c17] at H
                                  have c17b0 : (a0.toList == ([83, 69, 80] : List UInt8)) = false := beq_eq_false_iff_ne.mpr c17
                                  have c17b1 : (a0.toList != ([83, 69, 80] : List UInt8)) = true := bne_iff_ne.mpr c17
                                  by_cases c18 : a0.toList = ([79, 67, 84] : List UInt8)
                                  · rw [if_pos c18] at H
                                    have c18b0 : (a0.toList == ([79, 67, 84] : List UInt8)) = true := beq_iff_eq.mpr c18
                                    have c18b1 : (a0.toList != ([79, 67, 84] : List UInt8)) = false := bne_eq_false_iff_eq.mpr c18
                                    clear c18
                                    obtain rfl := Option.some.inj H
                                    go_enter Tryz.func109, Tryz.ntmps109
                                    go_wp2
                                    go_ret
                                    exact ⟨by first | rfl | (simp; done) | (simp [*]; done), by repeat (first | exact Drawn0.refl _ | apply Drawn0.step)⟩
                                  · rw [if_neg c18] at H
                                    have c18b0 : (a0.toList == ([79, 67, 84] : List UInt8)) = false := beq_eq_false_iff_ne.mpr c18
                                    have c18b1 : (a0.toList != ([79, 67, 84] : List UInt8)) = true := bne_iff_ne.mpr c18
                                    by_cases c19 : a0.toList = ([78, 79, 86] : List UInt8)
                                    · rw [if_pos c19] at H
                                      have c19b0 : (a0.toList == ([78, 79, 86] : List UInt8)) = true := beq_iff_eq.mpr c19
                                      have c19b1 : (a0.toList != ([78, 79, 86] : List UInt8)) = false := bne_eq_false_iff_eq.mpr c19
                                      clear c19
                                      obtain rfl := Option.some.inj H
                                      go_enter Tryz.func109, Tryz.ntmps109
                                      go_wp2
                                      go_ret
                                      exact ⟨by first | rfl | (simp; done) | (simp [*]; done), by repeat (first | exact Drawn0.refl _ | apply Drawn0.step)⟩
                                    · rw [if_neg c19] at H
                                      have c19b0 : (a0.toList == ([78, 79, 86] : List UInt8)) = false := beq_eq_false_iff_ne.mpr c19
                                      have c19b1 : (a0.toList != ([78, 79, 86] : List UInt8)) = true := bne_iff_ne.mpr c19
                                      by_cases c20 : a0.toList = ([68, 69, 67] : List UInt8)
                                      · rw [if_pos c20] at H
                                        have c20b0 : (a0.toList == ([68, 69, 67] : List UInt8)) = true := beq_iff_eq.mpr c20
                                        have c20b1 : (a0.toList != ([68, 69, 67] : List UInt8)) = false := bne_eq_false_iff_eq.mpr c20
                                        clear c20
                                        obtain rfl := Option.some.inj H
                                        go_enter Tryz.func109, Tryz.ntmps109
                                        go_wp2
                                        go_ret
                                        exact ⟨by first | rfl | (simp; done) | (simp [*]; done), by repeat (first | exact Drawn0.refl _ | apply Drawn0.step)⟩
                                      · rw [if_neg c20] at H
                                        have c20b0 : (a0.toList == ([68, 69, 67] : List UInt8)) = false := beq_eq_false_iff_ne.mpr c20
                                        have c20b1 : (a0.toList != ([68, 69, 67] : List UInt8)) = true := bne_iff_ne.mpr c20
                                        obtain rfl := Option.some.inj H
                                        go_enter Tryz.func109, Tryz.ntmps109
                                        go_wp2
                                        go_ret
                                        exact ⟨by first | rfl | (simp; done) | (simp [*]; done), by repeat (first | exact Drawn0.refl _ | apply Drawn0.step)⟩
end Go.Proofs.YtkhgeonlohafgaaGreatDoor.Core
namespace Go.Proofs.YtkhgeonlohafgaaGreatDoor.Core
open Go.RowKit Go.Proofs.YtkhgeonlohafgaaGreatDoorW.PrintWords Go.Proofs.YtkhgeonlohafgaaGreatDoorW.PrintLast Go.Proofs.YtkhgeonlohafgaaGreatDoorW.PrintMore
attribute [local go_sem] max2_int min2_int max_two min_two max_three min_three max_four min_four   -- for this text's walks alone
set_option linter.unusedVariables false
set_option linter.unusedSimpArgs false
def gronx_zzLiterals.l0 : Nat → ByteArray → List Int → Int → Option (ByteArray)
  | 0, _, _, _ => none
  | k + 1, x0, x3, x4 => if x4 < (x0.size : Int) then (if (wrap64 (x4 + 3)) ≤ (x0.size : Int) then (if 0 ≤ x4 then (if x4 ≤ (wrap64 (x4 + 3)) then ((gronx_literal.f (x0.extract (x4 : Int).toNat ((wrap64 (x4 + 3)) : Int).toNat)).bind fun t208 => (if t208.toList = ([] : List UInt8) then (if x3.length < 140737488355328 then (gronx_zzLiterals.l0 k x0 (x3 ++ [bt x0 x4]) (wrap64 (x4 + 1))) else (none)) else (if x3.length + t208.size < 140737488355328 then (gronx_zzLiterals.l0 k x0 (x3 ++ bytesOf t208) (wrap64 (x4 + 3))) else (none)))) else (none)) else (none)) else (if 0 ≤ x4 then (if x3.length < 140737488355328 then (gronx_zzLiterals.l0 k x0 (x3 ++ [bt x0 x4]) (wrap64 (x4 + 1))) else (none)) else (none))) else (some (strOfNums x3))
def gronx_zzLiterals.f (k : Nat) (a0 : ByteArray) : Option (ByteArray) := gronx_zzLiterals.l0 k a0 ([] : List Int) 0
theorem gronx_zzLiterals.mono_l : ∀ k, (∀ y0 y1 y2, LeO (gronx_zzLiterals.l0 k y0 y1 y2) (gronx_zzLiterals.l0 (k + 1) y0 y1 y2))
  | 0 => fun _ _ _ r h => by simp [gronx_zzLiterals.l0] at h
  | k + 1 => by
    have ih0 := gronx_zzLiterals.mono_l k
    · intro y0 y1 y2
      unfold gronx_zzLiterals.l0
      repeat' first
      | (with_reducible exact ih0 _ _ _)
      | (with_reducible exact LeO.refl _)
      | (with_reducible exact LeO.none _)
      | (with_reducible refine LeO.ite ?_ ?_)
      | (with_reducible refine LeO.bind ?_ (fun _ => ?_))
      | exact ih0 _ _ _
      | exact LeO.none _
      | refine LeO.ite ?_ ?_
      | refine LeO.bind ?_ (fun _ => ?_)
theorem gronx_zzLiterals.mono : ∀ a0 k, LeO (gronx_zzLiterals.f k a0) (gronx_zzLiterals.f (k + 1) a0) := by
  intro a0 k
  have ih0 := gronx_zzLiterals.mono_l k
  unfold gronx_zzLiterals.f
  repeat' first
      | (with_reducible exact ih0 _ _ _)
      | (with_reducible exact LeO.refl _)
      | (with_reducible exact LeO.none _)
      | (with_reducible refine LeO.ite ?_ ?_)
      | (with_reducible refine LeO.bind ?_ (fun _ => ?_))
      | exact ih0 _ _ _
      | exact LeO.none _
      | refine LeO.ite ?_ ?_
      | refine LeO.bind ?_ (fun _ => ?_)
set_option maxHeartbeats 8000000 in
set_option maxRecDepth 100000 in
theorem gronx_zzLiterals.calls (k : Nat) (a0 : ByteArray) (r : ByteArray) (w : World) (h : gronx_zzLiterals.f k a0 = some r) :
    Calls Tryz.prog 77 #[.string a0] w fun e w' => e = .returned (.string r) ∧ Below w.heap.size w w' := by
  have HB := Aside0.mk (Below.refl w.heap.size w)
  have H : (gronx_zzLiterals.l0 k a0 ([] : List Int) 0) = some r := h
  clear h
  have H' := Aside0.mk H
  clear H
  go_enter Tryz.func77, Tryz.ntmps77
  go_wp2
  go_loopg [3, 4] k (fun kq v3 v4 w' => ∃ (x3_1 : List Int) (x4_1 : Int), v4 = .int .i64 x4_1 ∧ Aside0 (gronx_zzLiterals.l0 kq a0 x3_1 x4_1 = some r) ∧ Aside0 (kq ≤ k) ∧ Aside0 (Kd.R (Kd.int .u8) 5 w' w.heap.size (fun _ => True) v3 x3_1) ∧ Aside0 (Below w.heap.size w w'))
  case atStart => exact ⟨(([] : List Int)), (0), (by first | rfl | (simp; done) | (simp [*]; done)), H', ⟨Nat.le_refl _⟩, ⟨by first | exact Kd.R_nil _ _ _ _ _ | exact Kd.N_nil _ _ _ _ _ | exact Kd.V_nil _ _ _ _ _ | exact Kd.Q_nil _ _ _ _ _ | exact Kd.S_nil _ _ _ _ _⟩, ⟨by repeat (first | (with_reducible first | exact HB.out | apply below_alloc | apply pw_below_drewN | apply below_drew1) | exact HB.out)⟩⟩
  case round =>
    clear H'
    obtain ⟨x3_1, x4_1, rfl, HA, HK1, HO_3, HB⟩ := hrel
    cases gk with
    | zero => exact absurd HA.out (by simp [gronx_zzLiterals.l0])
    | succ k1 =>
      have H := HA.out
      clear HA
      simp only [gronx_zzLiterals.l0] at H
      by_cases c2 : x4_1 < (a0.size : Int)
      · rw [if_pos c2] at H
        have c2b0 : decide (x4_1 < (a0.size : Int)) = true := decide_eq_true c2
        clear c2
        by_cases c3 : (wrap64 (x4_1 + 3)) ≤ (a0.size : Int)
        · rw [if_pos c3] at H
          have c3b0 : decide ((wrap64 (x4_1 + 3)) ≤ (a0.size : Int)) = true := decide_eq_true c3
          clear c3
          by_cases c4 : 0 ≤ x4_1
          · rw [if_pos c4] at H
            have c4b0 := eq_true c4
            have c4b1 : decide (0 ≤ x4_1) = true := decide_eq_true c4
            clear c4
            by_cases c5 : x4_1 ≤ (wrap64 (x4_1 + 3))
            · rw [if_pos c5] at H
              have c5b0 := eq_true c5
              have c5b1 : decide (x4_1 ≤ (wrap64 (x4_1 + 3))) = true := decide_eq_true c5
              have c6b0 := eq_true (of_decide_eq_true (by first | (with_reducible assumption) | assumption) : (wrap64 (x4_1 + 3)) ≤ (a0.size : Int))
              replace H := Option.bind_eq_some_iff.mp H
              obtain ⟨t208, A70, H⟩ := H
              replace H : (if t208.toList = ([] : List UInt8) then (if x3_1.length < 140737488355328 then (gronx_zzLiterals.l0 k1 a0 (x3_1 ++ [bt a0 x4_1]) (wrap64 (x4_1 + 1))) else (none)) else (if x3_1.length + t208.size < 140737488355328 then (gronx_zzLiterals.l0 k1 a0 (x3_1 ++ bytesOf t208) (wrap64 (x4_1 + 3))) else (none))) = some r := H
              have A7 := Aside0.mk A70
              clear A70
              by_cases c8 : t208.toList = ([] : List UInt8)
              · rw [if_pos c8] at H
                have c8b0 : (t208.toList == ([] : List UInt8)) = true := beq_iff_eq.mpr c8
                have c8b1 : (t208.toList != ([] : List UInt8)) = false := bne_eq_false_iff_eq.mpr c8
                clear c8
                by_cases c10 : x3_1.length < 140737488355328
                · rw [if_pos c10] at H
                  have LMc10 := Aside0.mk c10
                  clear c10
                  obtain ⟨y209, hy209⟩ : ∃ y_ : List Int, y_ = (x3_1 ++ [bt a0 x4_1]) := ⟨_, rfl⟩
                  replace H : (gronx_zzLiterals.l0 k1 a0 y209 (wrap64 (x4_1 + 1))) = some r := by first | (rw [hy209]; with_reducible exact H) | (have H2_ := (Option.bind_some _ _).symm.trans H; rw [hy209]; with_reducible exact H2_) | (have H2_ := (Option.bind_some _ _).symm.trans H; with_reducible exact H2_) | with_reducible exact H | (rw [hy209]; exact H) | exact H
                  have Ny209 := Aside0.mk hy209
                  clear hy209
                  have H' := Aside0.mk H
                  clear H
                  go_wp2_with (first | ((with_reducible refine gate_callee (f := 109) rfl ?_); refine goesL_ (some 20) rfl rfl Tryz.func109 (by kernel_rfl) rfl #[.string (a0.extract (x4_1 : Int).toNat ((wrap64 (x4_1 + 3)) : Int).toNat)] rfl (by (try simp only [List.map_toArray, List.map_cons, List.map_nil]); first | done | rfl | (simp only [List.length_drop, List.length_take]; rfl)) ?_; (with_reducible refine (gronx_literal.calls (a0.extract (x4_1 : Int).toNat ((wrap64 (x4_1 + 3)) : Int).toNat) t208 _ A7.out).mono ?_); rintro e w' ⟨rfl, ⟨nd, rfl⟩⟩; refine ⟨_, rfl, ?_⟩; have p9 : 0 ≤ (x4_1 : Int) := of_decide_eq_true (by first | (with_reducible assumption) | assumption); have q9 : x4_1 < (a0.size : Int) := of_decide_eq_true (by first | (with_reducible assumption) | assumption); have hx9 := bt_at a0 x4_1; replace p9 := eq_true p9; replace q9 := eq_true q9) | ((with_reducible refine gate_builtin (b := .append) (xs := #[.tmp 28, .tmp 32]) rfl ?_); at_builtin; refine Kd.R_append (Kd.int .u8) (w0 := w) w.heap.size rfl (.tmp 28) (.tmp 32) 78 5 (.int .u8 0) 1 rfl Tryz.underlying78 info5 rfl (by decide) (by omega) u3 x3_1 (bt a0 x4_1) [.int .u8 (bt a0 x4_1)] (fun _ => True) (fun _ => False) rfl rfl ?aP (fun _ hk => hk.elim) ?aF ?aO ?aB ?aS ?aL ?_; (case aP => exact rfl); (case aB => exact (by repeat (first | (with_reducible first | exact HB.out | apply below_alloc | apply pw_below_drewN | apply below_drew1) | exact HB.out))); (case aF => exact (fun _ _ => trivial)); (case aO => exact (by (with_reducible repeat (first | apply Kd.R_alloc | apply Kd.R_drewN | apply Kd.R_drew)); exact HO_3.out)); (case aS => exact (below_size (by repeat (first | (with_reducible first | exact HB.out | apply below_alloc | apply pw_below_drewN | apply below_drew1) | exact HB.out)))); (case aL => have := LMc10.out; omega); intro v210 w11 ho hb hg hat; rw [← Ny209.out] at ho; have n0_ := Aside0.mk (hb); have n1_ := Aside0.mk (ho); clear HB; clear HO_3; have HB := n0_; have HO211 := n1_; clear n0_ n1_; clear ho hb hg hat))
                  go_roundg k1
                  case measure => have := HK1.out; omega
                  case rel => exact ⟨(y209), (wrap64 (x4_1 + 1)), (by first | rfl | (simp; done) | (simp [*]; done)), H', ⟨by have := HK1.out; omega⟩, ⟨by (with_reducible repeat (first | apply Kd.R_alloc | apply Kd.R_drewN | apply Kd.R_drew)); exact HO211.out⟩, ⟨by repeat (first | (with_reducible first | exact HB.out | apply below_alloc | apply pw_below_drewN | apply below_drew1) | exact HB.out)⟩⟩
                · rw [if_neg c10] at H
                  exact absurd H (by simp)
              · rw [if_neg c8] at H
                have c8b0 : (t208.toList == ([] : List UInt8)) = false := beq_eq_false_iff_ne.mpr c8
                have c8b1 : (t208.toList != ([] : List UInt8)) = true := bne_iff_ne.mpr c8
                by_cases c12 : x3_1.length + t208.size < 140737488355328
                · rw [if_pos c12] at H
                  have LMc12 := Aside0.mk c12
                  clear c12
                  obtain ⟨y212, hy212⟩ : ∃ y_ : List Int, y_ = (x3_1 ++ bytesOf t208) := ⟨_, rfl⟩
                  replace H : (gronx_zzLiterals.l0 k1 a0 y212 (wrap64 (x4_1 + 3))) = some r := by first | (rw [hy212]; with_reducible exact H) | (have H2_ := (Option.bind_some _ _).symm.trans H; rw [hy212]; with_reducible exact H2_) | (have H2_ := (Option.bind_some _ _).symm.trans H; with_reducible exact H2_) | with_reducible exact H | (rw [hy212]; exact H) | exact H
                  have Ny212 := Aside0.mk hy212
                  clear hy212
                  have H' := Aside0.mk H
                  clear H
                  go_wp2_with (first | ((with_reducible refine gate_callee (f := 109) rfl ?_); refine goesL_ (some 20) rfl rfl Tryz.func109 (by kernel_rfl) rfl #[.string (a0.extract (x4_1 : Int).toNat ((wrap64 (x4_1 + 3)) : Int).toNat)] rfl (by (try simp only [List.map_toArray, List.map_cons, List.map_nil]); first | done | rfl | (simp only [List.length_drop, List.length_take]; rfl)) ?_; (with_reducible refine (gronx_literal.calls (a0.extract (x4_1 : Int).toNat ((wrap64 (x4_1 + 3)) : Int).toNat) t208 _ A7.out).mono ?_); rintro e w' ⟨rfl, ⟨nd, rfl⟩⟩; refine ⟨_, rfl, ?_⟩) | (at_builtin; refine print_append_str (w0 := w) w.heap.size rfl (.tmp 23) _ 78 9 5 rfl Tryz.underlying78 Tryz.underlying9 info5 u3 x3_1 t208 rfl rfl ?aO ?aB ?aS ?aL ?_; (case aB => exact (by repeat (first | (with_reducible first | exact HB.out | apply below_alloc | apply pw_below_drewN | apply below_drew1) | exact HB.out))); (case aO => exact (Kd.own_of_R (by (with_reducible repeat (first | apply Kd.R_alloc | apply Kd.R_drewN | apply Kd.R_drew)); exact HO_3.out))); (case aS => exact (below_size (by repeat (first | (with_reducible first | exact HB.out | apply below_alloc | apply pw_below_drewN | apply below_drew1) | exact HB.out)))); (case aL => have := LMc12.out; omega); intro v213 w13 ho0 hb hg; have ho := Kd.R_of_own (h1 := fun _ => rfl) (ok := fun _ => True) ho0 (fun _ _ => trivial); clear ho0; have hat := True.intro; rw [← Ny212.out] at ho; change Kd.R (Kd.int .u8) 5 w13 w.heap.size (fun _ => True) v213 y212 at ho; have n0_ := Aside0.mk (hb); have n1_ := Aside0.mk (ho); clear HB; clear HO_3; have HB := n0_; have HO214 := n1_; clear n0_ n1_; clear ho hb hg hat))
                  go_roundg k1
                  case measure => have := HK1.out; omega
                  case rel => exact ⟨(y212), (wrap64 (x4_1 + 3)), (by first | rfl | (simp; done) | (simp [*]; done)), H', ⟨by have := HK1.out; omega⟩, ⟨by (with_reducible repeat (first | apply Kd.R_alloc | apply Kd.R_drewN | apply Kd.R_drew)); exact HO214.out⟩, ⟨by repeat (first | (with_reducible first | exact HB.out | apply below_alloc | apply pw_below_drewN | apply below_drew1) | exact HB.out)⟩⟩
                · rw [if_neg c12] at H
                  exact absurd H (by simp)
            · rw [if_neg c5] at H
              exact absurd H (by simp)
          · rw [if_neg c4] at H
            exact absurd H (by simp)
        · rw [if_neg c3] at H
          have c3b0 : decide ((wrap64 (x4_1 + 3)) ≤ (a0.size : Int)) = false := decide_eq_false c3
          clear c3
          by_cases c14 : 0 ≤ x4_1
          · rw [if_pos c14] at H
            have c14b0 : decide (0 ≤ x4_1) = true := decide_eq_true c14
            clear c14
            by_cases c16 : x3_1.length < 140737488355328
            · rw [if_pos c16] at H
              have LMc16 := Aside0.mk c16
              clear c16
              obtain ⟨y215, hy215⟩ : ∃ y_ : List Int, y_ = (x3_1 ++ [bt a0 x4_1]) := ⟨_, rfl⟩
              replace H : (gronx_zzLiterals.l0 k1 a0 y215 (wrap64 (x4_1 + 1))) = some r := by first | (rw [hy215]; with_reducible exact H) | (have H2_ := (Option.bind_some _ _).symm.trans H; rw [hy215]; with_reducible exact H2_) | (have H2_ := (Option.bind_some _ _).symm.trans H; with_reducible exact H2_) | with_reducible exact H | (rw [hy215]; exact H) | exact H
              have Ny215 := Aside0.mk hy215
              clear hy215
              have H' := Aside0.mk H
              clear H
              have p15 : 0 ≤ (x4_1 : Int) := of_decide_eq_true (by first | (with_reducible assumption) | assumption)
              have q15 : x4_1 < (a0.size : Int) := of_decide_eq_true (by first | (with_reducible assumption) | assumption)
              have hx15 := bt_at a0 x4_1
              replace p15 := eq_true p15
              replace q15 := eq_true q15
              go_wp2_with (first | ((with_reducible refine gate_builtin (b := .append) (xs := #[.tmp 28, .tmp 32]) rfl ?_); at_builtin; refine Kd.R_append (Kd.int .u8) (w0 := w) w.heap.size rfl (.tmp 28) (.tmp 32) 78 5 (.int .u8 0) 1 rfl Tryz.underlying78 info5 rfl (by decide) (by omega) u3 x3_1 (bt a0 x4_1) [.int .u8 (bt a0 x4_1)] (fun _ => True) (fun _ => False) rfl rfl ?aP (fun _ hk => hk.elim) ?aF ?aO ?aB ?aS ?aL ?_; (case aP => exact rfl); (case aB => exact (by repeat (first | (with_reducible first | exact HB.out | apply below_alloc | apply pw_below_drewN | apply below_drew1) | exact HB.out))); (case aF => exact (fun _ _ => trivial)); (case aO => exact (by (with_reducible repeat (first | apply Kd.R_alloc | apply Kd.R_drewN | apply Kd.R_drew)); exact HO_3.out)); (case aS => exact (below_size (by repeat (first | (with_reducible first | exact HB.out | apply below_alloc | apply pw_below_drewN | apply below_drew1) | exact HB.out)))); (case aL => have := LMc16.out; omega); intro v216 w17 ho hb hg hat; rw [← Ny215.out] at ho; have n0_ := Aside0.mk (hb); have n1_ := Aside0.mk (ho); clear HB; clear HO_3; have HB := n0_; have HO217 := n1_; clear n0_ n1_; clear ho hb hg hat))
              go_roundg k1
              case measure => have := HK1.out; omega
              case rel => exact ⟨(y215), (wrap64 (x4_1 + 1)), (by first | rfl | (simp; done) | (simp [*]; done)), H', ⟨by have := HK1.out; omega⟩, ⟨by (with_reducible repeat (first | apply Kd.R_alloc | apply Kd.R_drewN | apply Kd.R_drew)); exact HO217.out⟩, ⟨by repeat (first | (with_reducible first | exact HB.out | apply below_alloc | apply pw_below_drewN | apply below_drew1) | exact HB.out)⟩⟩
            · rw [if_neg c16] at H
              exact absurd H (by simp)
          · rw [if_neg c14] at H
            exact absurd H (by simp)
      · rw [if_neg c2] at H
        have c2b0 : decide (x4_1 < (a0.size : Int)) = false := decide_eq_false c2
        clear c2
        obtain rfl := Option.some.inj H
        have hcv18 := own_string (P := Tryz.prog) Tryz.underlying78 Tryz.underlying5 Tryz.underlying9 (Kd.own_of_R HO_3.out)
        go_wp2
        go_ret
        exact ⟨by first | rfl | (simp [errW_none, errW_some] <;> rfl) | (simp [*, errW_none, errW_some] <;> rfl), by repeat (first | (with_reducible first | exact HB.out | apply below_alloc | apply pw_below_drewN | apply below_drew1) | exact HB.out)⟩
end Go.Proofs.YtkhgeonlohafgaaGreatDoor.Core
namespace Go.Proofs.YtkhgeonlohafgaaGreatDoor.Core
open Go.RowKit Go.Proofs.YtkhgeonlohafgaaGreatDoorW.PrintWords Go.Proofs.YtkhgeonlohafgaaGreatDoorW.PrintLast Go.Proofs.YtkhgeonlohafgaaGreatDoorW.PrintMore
attribute [local go_sem] max2_int min2_int max_two min_two max_three min_three max_four min_four   -- for this text's walks alone
set_option linter.unusedVariables false
set_option linter.unusedSimpArgs false
mutual
def gronx_zzHasYear.l0 : Nat → ByteArray → Int → Int → Option (Bool)
  | 0, _, _, _ => none
  | k + 1, x0, x3, x4 => if x4 < (x0.size : Int) then (if 0 ≤ x4 then (if (bt x0 x4) < 48 then (gronx_zzHasYear.j1 k x0 x3 x4 true) else (gronx_zzHasYear.j1 k x0 x3 x4 (decide ((bt x0 x4) > 57)))) else (none)) else (some false)
def gronx_zzHasYear.j1 : Nat → ByteArray → Int → Int → Bool → Option (Bool)
  | 0, _, _, _, _ => none
  | k + 1, x0, x3, x4, x20 => if x20 = true then (gronx_zzHasYear.l0 k x0 0 (wrap64 (x4 + 1))) else (if (wrap64 (x3 + 1)) = 4 then (some true) else (gronx_zzHasYear.l0 k x0 (wrap64 (x3 + 1)) (wrap64 (x4 + 1))))
end
def gronx_zzHasYear.f (k : Nat) (a0 : ByteArray) : Option (Bool) := gronx_zzHasYear.l0 k a0 0 0
theorem gronx_zzHasYear.mono_l : ∀ k, (∀ y0 y1 y2, LeO (gronx_zzHasYear.l0 k y0 y1 y2) (gronx_zzHasYear.l0 (k + 1) y0 y1 y2)) ∧ (∀ y0 y1 y2 y3, LeO (gronx_zzHasYear.j1 k y0 y1 y2 y3) (gronx_zzHasYear.j1 (k + 1) y0 y1 y2 y3))
  | 0 => ⟨fun _ _ _ r h => by simp [gronx_zzHasYear.l0] at h, fun _ _ _ _ r h => by simp [gronx_zzHasYear.j1] at h⟩
  | k + 1 => by
    obtain ⟨ih0, ih1⟩ := gronx_zzHasYear.mono_l k
    refine ⟨?_, ?_⟩
    · intro y0 y1 y2
      unfold gronx_zzHasYear.l0
      repeat' first
      | (with_reducible exact ih0 _ _ _)
      | (with_reducible exact ih1 _ _ _ _)
      | (with_reducible exact LeO.refl _)
      | (with_reducible exact LeO.none _)
      | (with_reducible refine LeO.ite ?_ ?_)
      | (with_reducible refine LeO.bind ?_ (fun _ => ?_))
      | exact ih0 _ _ _
      | exact ih1 _ _ _ _
      | exact LeO.none _
      | refine LeO.ite ?_ ?_
      | refine LeO.bind ?_ (fun _ => ?_)
    · intro y0 y1 y2 y3
      unfold gronx_zzHasYear.j1
      repeat' first
      | (with_reducible exact ih0 _ _ _)
      | (with_reducible exact ih1 _ _ _ _)
      | (with_reducible exact LeO.refl _)
      | (with_reducible exact LeO.none _)
      | (with_reducible refine LeO.ite ?_ ?_)
      | (with_reducible refine LeO.bind ?_ (fun _ => ?_))
      | exact ih0 _ _ _
      | exact ih1 _ _ _ _
      | exact LeO.none _
      | refine LeO.ite ?_ ?_
      | refine LeO.bind ?_ (fun _ => ?_)
theorem gronx_zzHasYear.mono : ∀ a0 k, LeO (gronx_zzHasYear.f k a0) (gronx_zzHasYear.f (k + 1) a0) := by
  intro a0 k
  obtain ⟨ih0, ih1⟩ := gronx_zzHasYear.mono_l k
  unfold gronx_zzHasYear.f
  repeat' first
      | (with_reducible exact ih0 _ _ _)
      | (with_reducible exact ih1 _ _ _ _)
      | (with_reducible exact LeO.refl _)
      | (with_reducible exact LeO.none _)
      | (with_reducible refine LeO.ite ?_ ?_)
      | (with_reducible refine LeO.bind ?_ (fun _ => ?_))
      | exact ih0 _ _ _
      | exact ih1 _ _ _ _
      | exact LeO.none _
      | refine LeO.ite ?_ ?_
      | refine LeO.bind ?_ (fun _ => ?_)
set_option maxHeartbeats 8000000 in
set_option maxRecDepth 100000 in
theorem gronx_zzHasYear.calls (k : Nat) (a0 : ByteArray) (r : Bool) (w : World) (h : gronx_zzHasYear.f k a0 = some r) :
    Calls Tryz.prog 52 #[.string a0] w fun e w' => e = .returned (.bool r) ∧ Drawn0 w w' := by
  have H : (gronx_zzHasYear.l0 k a0 0 0) = some r := h
  clear h
  have H' := Aside0.mk H
  clear H
  go_enter Tryz.func52, Tryz.ntmps52
  go_wp2
  go_loopg [3, 4] k (fun kq v3 v4 w' => ∃ (x3_1 : Int) (x4_1 : Int), v3 = .int .i64 x3_1 ∧ v4 = .int .i64 x4_1 ∧ Aside0 (gronx_zzHasYear.l0 kq a0 x3_1 x4_1 = some r) ∧ Aside0 (kq ≤ k) ∧ Drawn0 w w')
  case atStart => exact ⟨(0), (0), (by first | rfl | (simp; done) | (simp [*]; done)), (by first | rfl | (simp; done) | (simp [*]; done)), H', ⟨Nat.le_refl _⟩, by repeat (first | exact Drawn0.refl _ | apply Drawn0.step)⟩
  case round =>
    clear H'
    obtain ⟨x3_1, x4_1, rfl, rfl, HA, HK1, ⟨m1, rfl⟩⟩ := hrel
    cases gk with
    | zero => exact absurd HA.out (by simp [gronx_zzHasYear.l0])
    | succ k1 =>
      have H := HA.out
      clear HA
      simp only [gronx_zzHasYear.l0] at H
      by_cases c2 : x4_1 < (a0.size : Int)
      · rw [if_pos c2] at H
        have c2b0 : decide (x4_1 < (a0.size : Int)) = true := decide_eq_true c2
        clear c2
        have HC3 := Aside0.mk H
        clear H
        go_upto_region 5 with (fail)
        go_cut [20] (fun v20 wc => ∃ (kq : Nat) (x20_2 : Bool), v20 = .bool x20_2 ∧ Aside0 (gronx_zzHasYear.j1 kq a0 x3_1 x4_1 x20_2 = some r) ∧ Aside0 (kq ≤ k1) ∧ Drawn0 w wc)
        case first =>
          have H := HC3.out
          clear HC3
          by_cases c4 : 0 ≤ x4_1
          · rw [if_pos c4] at H
            have c4b0 : decide (0 ≤ x4_1) = true := decide_eq_true c4
            clear c4
            (first | rw [c4b0] | (simp only [i64_w, i32_w]; rw [c4b0]) | skip)
            by_cases c6 : (bt a0 x4_1) < 48
            · rw [if_pos c6] at H
              have c6b0 : decide ((bt a0 x4_1) < 48) = true := decide_eq_true c6
              clear c6
              have H' := Aside0.mk H
              clear H
              have p5 : 0 ≤ (x4_1 : Int) := of_decide_eq_true (by first | (with_reducible assumption) | assumption)
              have q5 : x4_1 < (a0.size : Int) := of_decide_eq_true (by first | (with_reducible assumption) | assumption)
              have hx5 := bt_at a0 x4_1
              replace p5 := eq_true p5
              replace q5 := eq_true q5
              go_wp2
              go_meet
              case rel => exact ⟨_, (true), (by first | rfl | (simp; done) | (simp [*]; done)), H', ⟨by have := HK1.out; first | omega | exact Nat.le_refl _⟩, by repeat (first | exact Drawn0.refl _ | apply Drawn0.step)⟩
            · rw [if_neg c6] at H
              have c6b0 : decide ((bt a0 x4_1) < 48) = false := decide_eq_false c6
              clear c6
              have H' := Aside0.mk H
              clear H
              have p5 : 0 ≤ (x4_1 : Int) := of_decide_eq_true (by first | (with_reducible assumption) | assumption)
              have q5 : x4_1 < (a0.size : Int) := of_decide_eq_true (by first | (with_reducible assumption) | assumption)
              have hx5 := bt_at a0 x4_1
              replace p5 := eq_true p5
              replace q5 := eq_true q5
              have p7 : 0 ≤ (x4_1 : Int) := of_decide_eq_true (by first | (with_reducible assumption) | assumption)
              have q7 : x4_1 < (a0.size : Int) := of_decide_eq_true (by first | (with_reducible assumption) | assumption)
              have hx7 := bt_at a0 x4_1
              replace p7 := eq_true p7
              replace q7 := eq_true q7
              go_wp2
              go_meet
              case rel => exact ⟨_, (decide ((bt a0 x4_1) > 57)), (by first | rfl | (simp; done) | (simp [*]; done)), H', ⟨by have := HK1.out; first | omega | exact Nat.le_refl _⟩, by repeat (first | exact Drawn0.refl _ | apply Drawn0.step)⟩
          · rw [if_neg c4] at H
            exact absurd H (by simp)
        case rest =>
          clear HC3
          try clear c2
          try clear c2b0
          try clear p2
          try clear c4
          try clear c4b0
          try clear c5
          try clear p5
          try clear q5
          try clear hx5
          try clear c6
          try clear c6b0
          try clear p7
          try clear q7
          try clear hx7
          try clear p5
          try clear p7
          try clear q5
          try clear q7
          obtain ⟨kq, x20_2, rfl, HA, HJ2, ⟨mc2, rfl⟩⟩ := hcut
          cases kq with
          | zero => exact absurd HA.out (by simp [gronx_zzHasYear.j1])
          | succ kj2 =>
            have H := HA.out
            clear HA
            simp only [gronx_zzHasYear.j1] at H
            by_cases c8 : x20_2 = true
            · subst c8
              have H1 : (gronx_zzHasYear.l0 kj2 a0 0 (wrap64 (x4_1 + 1))) = some r := by rw [if_pos rfl] at H; exact H
              clear H
              have H := H1
              clear H1
              have H' := Aside0.mk H
              clear H
              go_wp2
              go_roundg kj2
              case measure => have := HK1.out; have := HJ2.out; omega
              case rel => exact ⟨(0), (wrap64 (x4_1 + 1)), (by first | rfl | (simp; done) | (simp [*]; done)), (by first | rfl | (simp; done) | (simp [*]; done)), H', ⟨by have := HK1.out; have := HJ2.out; omega⟩, by repeat (first | exact Drawn0.refl _ | apply Drawn0.step)⟩
            · replace c8 := Bool.eq_false_iff.mpr c8
              subst c8
              have H1 : (if (wrap64 (x3_1 + 1)) = 4 then (some true) else (gronx_zzHasYear.l0 kj2 a0 (wrap64 (x3_1 + 1)) (wrap64 (x4_1 + 1)))) = some r := by rw [if_neg (show ¬ (false = true) by decide)] at H; exact H
              clear H
              have H := H1
              clear H1
              by_cases c9 : (wrap64 (x3_1 + 1)) = 4
              · rw [if_pos c9] at H
                have c9b0 : ((wrap64 (x3_1 + 1)) == 4) = true := beq_iff_eq.mpr c9
                have c9b1 : ((wrap64 (x3_1 + 1)) != 4) = false := bne_eq_false_iff_eq.mpr c9
                clear c9
                obtain rfl := Option.some.inj H
                go_wp2
                go_ret
                exact ⟨by first | rfl | (simp; done) | (simp [*]; done), by repeat (first | exact Drawn0.refl _ | apply Drawn0.step)⟩
              · rw [if_neg c9] at H
                have c9b0 : ((wrap64 (x3_1 + 1)) == 4) = false := beq_eq_false_iff_ne.mpr c9
                have c9b1 : ((wrap64 (x3_1 + 1)) != 4) = true := bne_iff_ne.mpr c9
                have H' := Aside0.mk H
                clear H
                go_wp2
                go_roundg kj2
                case measure => have := HK1.out; have := HJ2.out; omega
                case rel => exact ⟨(wrap64 (x3_1 + 1)), (wrap64 (x4_1 + 1)), (by first | rfl | (simp; done) | (simp [*]; done)), (by first | rfl | (simp; done) | (simp [*]; done)), H', ⟨by have := HK1.out; have := HJ2.out; omega⟩, by repeat (first | exact Drawn0.refl _ | apply Drawn0.step)⟩
      · rw [if_neg c2] at H
        have c2b0 : decide (x4_1 < (a0.size : Int)) = false := decide_eq_false c2
        clear c2
        obtain rfl := Option.some.inj H
        go_wp2
        go_ret
        exact ⟨by first | rfl | (simp; done) | (simp [*]; done), by repeat (first | exact Drawn0.refl _ | apply Drawn0.step)⟩
end Go.Proofs.YtkhgeonlohafgaaGreatDoor.Core
namespace Go.Proofs.YtkhgeonlohafgaaGreatDoor.Core
open Go.RowKit Go.Proofs.YtkhgeonlohafgaaGreatDoorW.PrintWords Go.Proofs.YtkhgeonlohafgaaGreatDoorW.PrintLast Go.Proofs.YtkhgeonlohafgaaGreatDoorW.PrintMore
attribute [local go_sem] max2_int min2_int max_two min_two max_three min_three max_four min_four   -- for this text's walks alone
set_option linter.unusedVariables false
set_option linter.unusedSimpArgs false
def gronx_expression.f (a0 : ByteArray) : Option (ByteArray × Bool) := if a0.toList = ([64, 121, 101, 97, 114, 108, 121] : List UInt8) then (some ((⟨#[48, 32, 48, 32, 49, 32, 49, 32, 42]⟩ : ByteArray), true)) else (if a0.toList = ([64, 97, 110, 110, 117, 97, 108, 108, 121] : List UInt8) then (some ((⟨#[48, 32, 48, 32, 49, 32, 49, 32, 42]⟩ : ByteArray), true)) else (if a0.toList = ([64, 109, 111, 110, 116, 104, 108, 121] : List UInt8) then (some ((⟨#[48, 32, 48, 32, 49, 32, 42, 32, 42]⟩ : ByteArray), true)) else (if a0.toList = ([64, 119, 101, 101, 107, 108, 121] : List UInt8) then (some ((⟨#[48, 32, 48, 32, 42, 32, 42, 32, 48]⟩ : ByteArray), true)) else (if a0.toList = ([64, 100, 97, 105, 108, 121] : List UInt8) then (some ((⟨#[48, 32, 48, 32, 42, 32, 42, 32, 42]⟩ : ByteArray), true)) else (if a0.toList = ([64, 104, 111, 117, 114, 108, 121] : List UInt8) then (some ((⟨#[48, 32, 42, 32, 42, 32, 42, 32, 42]⟩ : ByteArray), true)) else (if a0.toList = ([64, 97, 108, 119, 97, 121, 115] : List UInt8) then (some ((⟨#[42, 32, 42, 32, 42, 32, 42, 32, 42]⟩ : ByteArray), true)) else (if a0.toList = ([64, 53, 109, 105, 110, 117, 116, 101, 115] : List UInt8) then (some ((⟨#[42, 47, 53, 32, 42, 32, 42, 32, 42, 32, 42]⟩ : ByteArray), true)) else (if a0.toList = ([64, 49, 48, 109, 105, 110, 117, 116, 101, 115] : List UInt8) then (some ((⟨#[42, 47, 49, 48, 32, 42, 32, 42, 32, 42, 32, 42]⟩ : ByteArray), true)) else (if a0.toList = ([64, 49, 53, 109, 105, 110, 117, 116, 101, 115] : List UInt8) then (some ((⟨#[42, 47, 49, 53, 32, 42, 32, 42, 32, 42, 32, 42]⟩ : ByteArray), true)) else (if a0.toList = ([64, 51, 48, 109, 105, 110, 117, 116, 101, 115] : List UInt8) then (some ((⟨#[48, 44, 51, 48, 32, 42, 32, 42, 32, 42, 32, 42]⟩ : ByteArray), true)) else (if a0.toList = ([64, 101, 118, 101, 114, 121, 115, 101, 99, 111, 110, 100] : List UInt8) then (some ((⟨#[42, 32, 42, 32, 42, 32, 42, 32, 42, 32, 42]⟩ : ByteArray), true)) else (some ((⟨#[]⟩ : ByteArray), false)))))))))))))
set_option maxHeartbeats 8000000 in
set_option maxRecDepth 100000 in
theorem gronx_expression.calls (a0 : ByteArray) (r1 : ByteArray) (r2 : Bool) (w : World) (h : gronx_expression.f a0 = some (r1, r2)) :
    Calls Tryz.prog 74 #[.string a0] w fun e w' => e = .returned (.tuple #[.string r1, .bool r2]) ∧ Drawn0 w w' := by
  have H : (if a0.toList = ([64, 121, 101, 97, 114, 108, 121] : List UInt8) then (some ((⟨#[48, 32, 48, 32, 49, 32, 49, 32, 42]⟩ : ByteArray), true)) else (if a0.toList = ([64, 97, 110, 110, 117, 97, 108, 108, 121] : List UInt8) then (some ((⟨#[48, 32, 48, 32, 49, 32, 49, 32, 42]⟩ : ByteArray), true)) else (if a0.toList = ([64, 109, 111, 110, 116, 104, 108, 121] : List UInt8) then (some ((⟨#[48, 32, 48, 32, 49, 32, 42, 32, 42]⟩ : ByteArray), true)) else (if a0.toList = ([64, 119, 101, 101, 107, 108, 121] : List UInt8) then (some ((⟨#[48, 32, 48, 32, 42, 32, 42, 32, 48]⟩ : ByteArray), true)) else (if a0.toList = ([64, 100, 97, 105, 108, 121] : List UInt8) then (some ((⟨#[48, 32, 48, 32, 42, 32, 42, 32, 42]⟩ : ByteArray), true)) else (if a0.toList = ([64, 104, 111, 117, 114, 108, 121] : List UInt8) then (some ((⟨#[48, 32, 42, 32, 42, 32, 42, 32, 42]⟩ : ByteArray), true)) else (if a0.toList = ([64, 97, 108, 119, 97, 121, 115] : List UInt8) then (some ((⟨#[42, 32, 42, 32, 42, 32, 42, 32, 42]⟩ : ByteArray), true)) else (if a0.toList = ([64, 53, 109, 105, 110, 117, 116, 101, 115] : List UInt8) then (some ((⟨#[42, 47, 53, 32, 42, 32, 42, 32, 42, 32, 42]⟩ : ByteArray), true)) else (if a0.toList = ([64, 49, 48, 109, 105, 110, 117, 116, 101, 115] : List UInt8) then (some ((⟨#[42, 47, 49, 48, 32, 42, 32, 42, 32, 42, 32, 42]⟩ : ByteArray), true)) else (if a0.toList = ([64, 49, 53, 109, 105, 110, 117, 116, 101, 115] : List UInt8) then (some ((⟨#[42, 47, 49, 53, 32, 42, 32, 42, 32, 42, 32, 42]⟩ : ByteArray), true)) else (if a0.toList = ([64, 51, 48, 109, 105, 110, 117, 116, 101, 115] : List UInt8) then (some ((⟨#[48, 44, 51, 48, 32, 42, 32, 42, 32, 42, 32, 42]⟩ : ByteArray), true)) else (if a0.toList = ([64, 101, 118, 101, 114, 121, 115, 101, 99, 111, 110, 100] : List UInt8) then (some ((⟨#[42, 32, 42, 32, 42, 32, 42, 32, 42, 32, 42]⟩ : ByteArray), true)) else (some ((⟨#[]⟩ : ByteArray), false)))))))))))))) = some (r1, r2) := h
  clear h
  by_cases c2 : a0.toList = ([64, 121, 101, 97, 114, 108, 121] : List UInt8)
  · rw [if_pos c2] at H
    have c2b0 : (a0.toList == ([64, 121, 101, 97, 114, 108, 121] : List UInt8)) = true := beq_iff_eq.mpr c2
    have c2b1 : (a0.toList != ([64, 121, 101, 97, 114, 108, 121] : List UInt8)) = false := bne_eq_false_iff_eq.mpr c2
    clear c2
    simp only [Option.some.injEq, Prod.mk.injEq] at H
    obtain ⟨rfl, rfl⟩ := H
    go_enter Tryz.func74, Tryz.ntmps74
    go_wp2
    go_ret2
    exact ⟨by first | rfl | (simp; done) | (simp [*]; done), by repeat (first | exact Drawn0.refl _ | apply Drawn0.step)⟩
  · rw [if_neg c2] at H
    have c2b0 : (a0.toList == ([64, 121, 101, 97, 114, 108, 121] : List UInt8)) = false := beq_eq_false_iff_ne.mpr c2
    have c2b1 : (a0.toList != ([64, 121, 101, 97, 114, 108, 121] : List UInt8)) = true := bne_iff_ne.mpr c2
    by_cases c3 : a0.toList = ([64, 97, 110, 110, 117, 97, 108, 108, 121] : List UInt8)
    · rw [if_pos c3] at H
      have c3b0 : (a0.toList == ([64, 97, 110, 110, 117, 97, 108, 108, 121] : List UInt8)) = true := beq_iff_eq.mpr c3
      have c3b1 : (a0.toList != ([64, 97, 110, 110, 117, 97, 108, 108, 121] : List UInt8)) = false := bne_eq_false_iff_eq.mpr c3
      clear c3
      simp only [Option.some.injEq, Prod.mk.injEq] at H
      obtain ⟨rfl, rfl⟩ := H
      go_enter Tryz.func74, Tryz.ntmps74
      go_wp2
      go_ret2
      exact ⟨by first | rfl | (simp; done) | (simp [*]; done), by repeat (first | exact Drawn0.refl _ | apply Drawn0.step)⟩
    · rw [if_neg c3] at H
      have c3b0 : (a0.toList == ([64, 97, 110, 110, 117, 97, 108, 108, 121] : List UInt8)) = false := beq_eq_false_iff_ne.mpr c3
      have c3b1 : (a0.toList != ([64, 97, 110, 110, 117, 97, 108, 108, 121] : List UInt8)) = true := bne_iff_ne.mpr c3
      by_cases c4 : a0.toList = ([64, 109, 111, 110, 116, 104, 108, 121] : List UInt8)
      · rw [if_pos c4] at H
        have c4b0 : (a0.toList == ([64, 109, 111, 110, 116, 104, 108, 121] : List UInt8)) = true := beq_iff_eq.mpr c4
        have c4b1 : (a0.toList != ([64, 109, 111, 110, 116, 104, 108, 121] : List UInt8)) = false := bne_eq_false_iff_eq.mpr c4
        clear c4
        simp only [Option.some.injEq, Prod.mk.injEq] at H
        obtain ⟨rfl, rfl⟩ := H
        go_enter Tryz.func74, Tryz.ntmps74
        go_wp2
        go_ret2
        exact ⟨by first | rfl | (simp; done) | (simp [*]; done), by repeat (first | exact Drawn0.refl _ | apply Drawn0.step)⟩
      · rw [if_neg c4] at H
        have c4b0 : (a0.toList == ([64, 109, 111, 110, 116, 104, 108, 121] : List UInt8)) = false := beq_eq_false_iff_ne.mpr c4
        have c4b1 : (a0.toList != ([64, 109, 111, 110, 116, 104, 108, 121] : List UInt8)) = true := bne_iff_ne.mpr c4
        by_cases c5 : a0.toList = ([64, 119, 101, 101, 107, 108, 121] : List UInt8)
        · rw [if_pos c5] at H
          have c5b0 : (a0.toList == ([64, 119, 101, 101, 107, 108, 121] : List UInt8)) = true := beq_iff_eq.mpr c5
          have c5b1 : (a0.toList != ([64, 119, 101, 101, 107, 108, 121] : List UInt8)) = false := bne_eq_false_iff_eq.mpr c5
          clear c5
          simp only [Option.some.injEq, Prod.mk.injEq] at H
          obtain ⟨rfl, rfl⟩ := H
          go_enter Tryz.func74, Tryz.ntmps74
          go_wp2
          go_ret2
          exact ⟨by first | rfl | (simp; done) | (simp [*]; done), by repeat (first | exact Drawn0.refl _ | apply Drawn0.step)⟩
        · rw [if_neg c5] at H
          have c5b0 : (a0.toList == ([64, 119, 101, 101, 107, 108, 121] : List UInt8)) = false := beq_eq_false_iff_ne.mpr c5
          have c5b1 : (a0.toList != ([64, 119, 101, 101, 107, 108, 121] : List UInt8)) = true := bne_iff_ne.mpr c5
          by_cases c6 : a0.toList = ([64, 100, 97, 105, 108, 121] : List UInt8)
          · rw [if_pos c6] at H
            have c6b0 : (a0.toList == ([64, 100, 97, 105, 108, 121] : List UInt8)) = true := beq_iff_eq.mpr c6
            have c6b1 : (a0.toList != ([64, 100, 97, 105, 108, 121] : List UInt8)) = false := bne_eq_false_iff_eq.mpr c6
            clear c6
            simp only [Option.some.injEq, Prod.mk.injEq] at H
            obtain ⟨rfl, rfl⟩ := H
            go_enter Tryz.func74, Tryz.ntmps74
            go_wp2
            go_ret2
            exact ⟨by first | rfl | (simp; done) | (simp [*]; done), by repeat (first | exact Drawn0.refl _ | apply Drawn0.step)⟩
          · rw [if_neg c6] at H
            have c6b0 : (a0.toList == ([64, 100, 97, 105, 108, 121] : List UInt8)) = false := beq_eq_false_iff_ne.mpr c6
            have c6b1 : (a0.toList != ([64, 100, 97, 105, 108, 121] : List UInt8)) = true := bne_iff_ne.mpr c6
            by_cases c7 : a0.toList = ([64, 104, 111, 117, 114, 108, 121] : List UInt8)
            · rw [if_pos c7] at H
              have c7b0 : (a0.toList == ([64, 104, 111, 117, 114, 108, 121] : List UInt8)) = true := beq_iff_eq.mpr c7
              have c7b1 : (a0.toList != ([64, 104, 111, 117, 114, 108, 121] : List UInt8)) = false := bne_eq_false_iff_eq.mpr c7
              clear c7
              simp only [Option.some.injEq, Prod.mk.injEq] at H
              obtain ⟨rfl, rfl⟩ := H
              go_enter Tryz.func74, Tryz.ntmps74
              go_wp2
              go_ret2
              exact ⟨by first | rfl | (simp; done) | (simp [*]; done), by repeat (first | exact Drawn0.refl _ | apply Drawn0.step)⟩
            · rw [if_neg c7] at H
              have c7b0 : (a0.toList == ([64, 104, 111, 117, 114, 108, 121] : List UInt8)) = false := beq_eq_false_iff_ne.mpr c7
              have c7b1 : (a0.toList != ([64, 104, 111, 117, 114, 108, 121] : List UInt8)) = true := bne_iff_ne.mpr c7
              by_cases c8 : a0.toList = ([64, 97, 108, 119, 97, 121, 115] : List UInt8)
              · rw [if_pos c8] at H
                have c8b0 : (a0.toList == ([64, 97, 108, 119, 97, 121, 115] : List UInt8)) = true := beq_iff_eq.mpr c8
                have c8b1 : (a0.toList != ([64, 97, 108, 119, 97, 121, 115] : List UInt8)) = false := bne_eq_false_iff_eq.mpr c8
                clear c8
                simp only [Option.some.injEq, Prod.mk.injEq] at H
                obtain ⟨rfl, rfl⟩ := H
                go_enter Tryz.func74, Tryz.ntmps74
                go_wp2
                go_ret2
                exact ⟨by first | rfl | (simp; done) | (simp [*]; done), by repeat (first | exact Drawn0.refl _ | apply Drawn0.step)⟩
              · rw [if_neg c8] at H
                have c8b0 : (a0.toList == ([64, 97, 108, 119, 97, 121, 115] : List UInt8)) = false := beq_eq_false_iff_ne.mpr c8
                have c8b1 : (a0.toList != ([64, 97, 108, 119, 97, 121, 115] : List UInt8)) = true := bne_iff_ne.mpr c8
                by_cases c9 : a0.toList = ([64, 53, 109, 105, 110, 117, 116, 101, 115] : List UInt8)
                · rw [if_pos c9] at H
                  have c9b0 : (a0.toList == ([64, 53, 109, 105, 110, 117, 116, 101, 115] : List UInt8)) = true := beq_iff_eq.mpr c9
                  have c9b1 : (a0.toList != ([64, 53, 109, 105, 110, 117, 116, 101, 115] : List UInt8)) = false := bne_eq_false_iff_eq.mpr c9
                  clear c9
                  simp only [Option.some.injEq, Prod.mk.injEq] at H
                  obtain ⟨rfl, rfl⟩ := H
                  go_enter Tryz.func74, Tryz.ntmps74
                  go_wp2
                  go_ret2
                  exact ⟨by first | rfl | (simp; done) | (simp [*]; done), by repeat (first | exact Drawn0.refl _ | apply Drawn0.step)⟩
                · rw [if_neg c9] at H
                  have c9b0 : (a0.toList == ([64, 53, 109, 105, 110, 117, 116, 101, 115] : List UInt8)) = false := beq_eq_false_iff_ne.mpr c9
                  have c9b1 : (a0.toList != ([64, 53, 109, 105, 110, 117, 116, 101, 115] : List UInt8)) = true := bne_iff_ne.mpr c9
                  by_cases c10 : a0.toList = ([64, 49, 48, 109, 105, 110, 117, 116, 101, 115] : List UInt8)
                  · rw [if_pos c10] at H
                    have c10b0 : (a0.toList == ([64, 49, 48, 109, 105, 110, 117, 116, 101, 115] : List UInt8)) = true := beq_iff_eq.mpr c10
                    have c10b1 : (a0.toList != ([64, 49, 48, 109, 105, 110, 117, 116, 101, 115] : List UInt8)) = false := bne_eq_false_iff_eq.mpr c10
                    clear c10
                    simp only [Option.some.injEq, Prod.mk.injEq] at H
                    obtain ⟨rfl, rfl⟩ := H
                    go_enter Tryz.func74, Tryz.ntmps74
                    go_wp2
                    go_ret2
                    exact ⟨by first | rfl | (simp; done) | (simp [*]; done), by repeat (first | exact Drawn0.refl _ | apply Drawn0.step)⟩
                  · rw [if_neg c10] at H
                    have c10b0 : (a0.toList == ([64, 49, 48, 109, 105, 110, 117, 116, 101, 115] : List UInt8)) = false := beq_eq_false_iff_ne.mpr c10
                    have c10b1 : (a0.toList != ([64, 49, 48, 109, 105, 110, 117, 116, 101, 115] : List UInt8)) = true := bne_iff_ne.mpr c10
                    by_cases c11 : a0.toList = ([64, 49, 53, 109, 105, 110, 117, 116, 101, 115] : List UInt8)
                    · rw [if_pos c11] at H
                      have c11b0 : (a0.toList == ([64, 49, 53, 109, 105, 110, 117, 116, 101, 115] : List UInt8)) = true := beq_iff_eq.mpr c11
                      have c11b1 : (a0.toList != ([64, 49, 53, 109, 105, 110, 117, 116, 101, 115] : List UInt8)) = false := bne_eq_false_iff_eq.mpr c11
                      clear c11
                      simp only [Option.some.injEq, Prod.mk.injEq] at H
                      obtain ⟨rfl, rfl⟩ := H
                      go_enter Tryz.func74, Tryz.ntmps74
                      go_wp2
                      go_ret2
                      exact ⟨by first | rfl | (simp; done) | (simp [*]; done), by repeat (first | exact Drawn0.refl _ | apply Drawn0.step)⟩
                    · rw [if_neg c11] at H
                      have c11b0 : (a0.toList == ([64, 49, 53, 109, 105, 110, 117, 116, 101, 115] : List UInt8)) = false := beq_eq_false_iff_ne.mpr c11
                      have c11b1 : (a0.toList != ([64, 49, 53, 109, 105, 110, 117, 116, 101, 115] : List UInt8)) = true := bne_iff_ne.mpr c11
                      by_cases c12 : a0.toList = ([64, 51, 48, 109, 105, 110, 117, 116, 101, 115] : List UInt8)
                      · rw [if_pos c12] at H
                        have c12b0 : (a0.toList == ([64, 51, 48, 109, 105, 110, 117, 116, 101, 115] : List UInt8)) = true := beq_iff_eq.mpr c12
                        have c12b1 : (a0.toList != ([64, 51, 48, 109, 105, 110, 117, 116, 101, 115] : List UInt8)) = false := bne_eq_false_iff_eq.mpr c12
                        clear c12
                        simp only [Option.some.injEq, Prod.mk.injEq] at H
                        obtain ⟨rfl, rfl⟩ := H
                        go_enter Tryz.func74, Tryz.ntmps74
                        go_wp2
                        go_ret2
                        exact ⟨by first | rfl | (simp; done) | (simp [*]; done), by repeat (first | exact Drawn0.refl _ | apply Drawn0.step)⟩
                      · rw [if_neg c12] at H
                        have c12b0 : (a0.toList == ([64, 51, 48, 109, 105, 110, 117, 116, 101, 115] : List UInt8)) = false := beq_eq_false_iff_ne.mpr c12
                        have c12b1 : (a0.toList != ([64, 51, 48, 109, 105, 110, 117, 116, 101, 115] : List UInt8)) = true := bne_iff_ne.mpr c12
                        by_cases c13 : a0.toList = ([64, 101, 118, 101, 114, 121, 115, 101, 99, 111, 110, 100] : List UInt8)
                        · rw [if_pos c13] at H
                          have c13b0 : (a0.toList == ([64, 101, 118, 101, 114, 121, 115, 101, 99, 111, 110, 100] : List UInt8)) = true := beq_iff_eq.mpr c13
                          have c13b1 : (a0.toList != ([64, 101, 118, 101, 114, 121, 115, 101, 99, 111, 110, 100] : List UInt8)) = false := bne_eq_false_iff_eq.mpr c13
                          clear c13
                          simp only [Option.some.injEq, Prod.mk.injEq] at H
                          obtain ⟨rfl, rfl⟩ := H
                          go_enter Tryz.func74, Tryz.ntmps74
                          go_wp2
                          go_ret2
                          exact ⟨by first | rfl | (simp; done) | (simp [*]; done), by repeat (first | exact Drawn0.refl _ | apply Drawn0.step)⟩
                        · rw [if_neg c13] at H
                          have c13b0 : (a0.toList == ([64, 101, 118, 101, 114, 121, 115, 101, 99, 111, 110, 100] : List UInt8)) = false := beq_eq_false_iff_ne.mpr c13
                          have c13b1 : (a0.toList != ([64, 101, 118, 101, 114, 121, 115, 101, 99, 111, 110, 100] : List UInt8)) = true := bne_iff_ne.mpr c13
                          simp only [Option.some.injEq, Prod.mk.injEq] at H
                          obtain ⟨rfl, rfl⟩ := H
                          go_enter Tryz.func74, Tryz.ntmps74
                          go_wp2
                          go_ret2
                          exact ⟨by first | rfl | (simp; done) | (simp [*]; done), by repeat (first | exact Drawn0.refl _ | apply Drawn0.step)⟩
end Go.Proofs.YtkhgeonlohafgaaGreatDoor.Core
namespace Go.Proofs.YtkhgeonlohafgaaGreatDoor.Core
open Go.RowKit Go.Proofs.YtkhgeonlohafgaaGreatDoorW.PrintWords
def isAscii (s : ByteArray) : Bool := s.data.toList.all fun b => decide (b.toNat < 128)
theorem isAscii_at {s : ByteArray} (h : isAscii s = true) (j : Nat) (b : UInt8) (hb : s.data.toList[j]? = some b) : b.toNat < 128 :=
  of_decide_eq_true (List.all_eq_true.1 h b (List.mem_of_getElem? hb))
def strings_ToLower.f (a0 : ByteArray) : Option (ByteArray) := if a0.size ≤ 140737488355328 then (if isAscii a0 = true then (some ⟨(Lib.toLowerA a0.data.toList).toArray⟩) else none) else none
theorem strings_ToLower.calls (a0 : ByteArray) (r : ByteArray) (w : World) (h : strings_ToLower.f a0 = some r) :
    Calls Tryz.prog 75 #[.string a0] w fun e w' => e = .returned (.string r) ∧ Below w.heap.size w w' := by
  unfold strings_ToLower.f at h
  split at h
  · rename_i h1
    split at h
    · rename_i h2
      obtain rfl := Option.some.inj h
      exact Tryz.strings_ToLower_ascii a0 w h1 (fun j b hb => isAscii_at h2 j b hb)
    · cases h
  · cases h
def strings_ToUpper.f (a0 : ByteArray) : Option (ByteArray) := if a0.size ≤ 140737488355328 then (if isAscii a0 = true then (some ⟨(Lib.toUpperA a0.data.toList).toArray⟩) else none) else none
theorem strings_ToUpper.calls (a0 : ByteArray) (r : ByteArray) (w : World) (h : strings_ToUpper.f a0 = some r) :
    Calls Tryz.prog 78 #[.string a0] w fun e w' => e = .returned (.string r) ∧ Below w.heap.size w w' := by
  unfold strings_ToUpper.f at h
  split at h
  · rename_i h1
    split at h
    · rename_i h2
      obtain rfl := Option.some.inj h
      exact Tryz.strings_ToUpper_ascii a0 w h1 (fun j b hb => isAscii_at h2 j b hb)
    · cases h
  · cases h
end Go.Proofs.YtkhgeonlohafgaaGreatDoor.Core
namespace Go.Proofs.YtkhgeonlohafgaaGreatDoor.Core
open Go.RowKit Go.Proofs.YtkhgeonlohafgaaGreatDoorW.PrintWords
def idxL (m : List UInt8) : List UInt8 → Nat → Int
  | [], _ => -1
  | b :: t, i => if m.length ≤ t.length + 1 then (if (b :: t).take m.length = m then (i : Int) else idxL m t (i + 1)) else -1
theorem zzIndex_from (l m : List UInt8) (hm : m ≠ []) (hl : l.length < 4611686018427387904) (hml : m.length < 4611686018427387904) :
    ∀ (rest : List UInt8) (i : Nat), l.drop i = rest → i ≤ l.length → Ev (fun k => gronx_zzIndex.l0 k (B l) (B m) (i : Int)) (idxL m rest i) := by
  have hm0 : 0 < m.length := List.length_pos_iff.2 hm
  intro rest
  induction rest with
  | nil =>
    intro i hi hil
    have hlen : l.length ≤ i := List.drop_eq_nil_iff.1 hi
    refine Ev.done fun k => ?_
    simp only [gronx_zzIndex.l0, B_size]
    rw [wrap64_id (by omega) (by omega), if_neg (by omega)]
    rfl
  | cons b t ih =>
    intro i hi hil
    have hlen : t.length + 1 = l.length - i := by have := congrArg List.length hi; simpa using this.symm
    unfold idxL
    by_cases h1 : m.length ≤ t.length + 1
    · rw [if_pos h1]
      have hcut : (B l).extract ((i : Int)).toNat (((i : Int) + (m.length : Int))).toNat = B ((b :: t).take m.length) := by
        rw [B_cut, show ((i : Int)).toNat = i by omega, hi, show (((i : Int) + (m.length : Int))).toNat - i = m.length by omega]
      by_cases h2 : (b :: t).take m.length = m
      · rw [if_pos h2]
        refine Ev.done fun k => ?_
        simp only [gronx_zzIndex.l0, B_size]
        rw [wrap64_id (by omega) (by omega), if_pos (by omega), if_pos (by omega), if_pos (by omega), hcut, B_list, B_list, if_pos h2]
      · rw [if_neg h2]
        refine Ev.step (f := fun k => gronx_zzIndex.l0 k (B l) (B m) ((i + 1 : Nat) : Int)) (fun k => ?_) (ih (i + 1) ?_ (by omega))
        · simp only [gronx_zzIndex.l0, B_size]
          rw [wrap64_id (by omega) (by omega), if_pos (by omega), if_pos (by omega), if_pos (by omega), hcut, B_list, B_list, if_neg h2, wrap64_nat i (by omega)]
        · rw [← List.drop_drop, hi]; rfl
    · rw [if_neg h1]
      refine Ev.done fun k => ?_
      simp only [gronx_zzIndex.l0, B_size]
      rw [wrap64_id (by omega) (by omega), if_neg (by omega)]
theorem zzIndex_ev (l m : List UInt8) (hm : m ≠ []) (hl : l.length < 4611686018427387904) (hml : m.length < 4611686018427387904) :
    Ev (fun k => gronx_zzIndex.f k (B l) (B m)) (idxL m l 0) := zzIndex_from l m hm hl hml l 0 rfl (Nat.zero_le _)
theorem idxL_one_none (c : UInt8) (l : List UInt8) (h : c ∉ l) (i : Nat) : idxL [c] l i = -1 := by
  induction l generalizing i with
  | nil => rfl
  | cons b t ih =>
    unfold idxL
    rw [if_pos (by simp), if_neg (by simp; intro e; exact h (by simp [e])), ih (fun e => h (by simp [e]))]
theorem idxL_one_at (c : UInt8) (p r : List UInt8) (h : c ∉ p) (i : Nat) : idxL [c] (p ++ c :: r) i = ((i + p.length : Nat) : Int) := by
  induction p generalizing i with
  | nil => simp [idxL]
  | cons b t ih =>
    rw [List.cons_append]
    unfold idxL
    rw [if_pos (by simp), if_neg (by simp; intro e; exact h (by simp [e])), ih (fun e => h (by simp [e]))]
    simp
    omega
def splitL (c : UInt8) : List UInt8 → List (List UInt8)
  | [] => [[]]
  | b :: t => if b = c then [] :: splitL c t else match splitL c t with | [] => [[b]] | h :: r => (b :: h) :: r
theorem splitL_none (c : UInt8) (l : List UInt8) (h : c ∉ l) : splitL c l = [l] := by
  induction l with
  | nil => rfl
  | cons b t ih => rw [splitL, if_neg (fun e => h (by simp [e])), ih (fun e => h (by simp [e]))]
theorem splitL_at (c : UInt8) (p r : List UInt8) (h : c ∉ p) : splitL c (p ++ c :: r) = p :: splitL c r := by
  induction p with
  | nil => simp [splitL]
  | cons b t ih => rw [List.cons_append, splitL, if_neg (fun e => h (by simp [e])), ih (fun e => h (by simp [e]))]
theorem mem_cut {c : UInt8} {l : List UInt8} (h : c ∈ l) : ∃ p r, l = p ++ c :: r ∧ c ∉ p := by
  induction l with
  | nil => cases h
  | cons b t ih =>
    by_cases e : b = c
    · exact ⟨[], t, by simp [e], by simp⟩
    · obtain ⟨p, r, rfl, hp⟩ := ih (by rcases List.mem_cons.1 h with h | h; exact absurd h.symm e; exact h)
      exact ⟨b :: p, r, rfl, by simp [hp, Ne.symm e]⟩
theorem zzSplit_from (c : UInt8) : ∀ (n : Nat) (l : List UInt8) (acc : List ByteArray), l.length ≤ n → l.length + acc.length < 8796093022208 →
    Ev (fun k => gronx_zzSplit.l0 k (B l) (B [c]) acc) (acc ++ (splitL c l).map B) := by
  intro n
  induction n with
  | zero =>
    intro l acc hn hb
    obtain rfl : l = [] := List.eq_nil_of_length_eq_zero (by omega)
    have hix := zzIndex_ev [] [c] (by simp) (by simp) (by simp)
    refine Ev.step (f := fun k => (gronx_zzIndex.f k (B []) (B [c])).bind fun t => if t < 0 then some (acc ++ [B []]) else none) (fun k => ?_) (Ev.bind hix (Ev.const (by simp [idxL, splitL])))
    simp only [gronx_zzSplit.l0]
    cases gronx_zzIndex.f k (B []) (B [c]) with
    | none => rfl
    | some t =>
      simp only [Option.bind_some]
      by_cases h : t < 0
      · rw [if_pos h, if_pos h, if_pos (by omega)]
      · rw [if_neg h, if_neg h, if_pos (by omega)]
        by_cases h2 : t ≤ ((B []).size : Int)
        · have h3 : t = 0 := by rw [B_size] at h2; simp at h2; omega
          subst h3
          rw [if_pos h2, if_pos (by omega), B_size, B_size, wrap64_id (by simp) (by simp), if_pos (by simp), if_neg (by simp)]
        · rw [if_neg h2]
  | succ n ih =>
    intro l acc hn hb
    by_cases hc : c ∈ l
    · obtain ⟨p, r, rfl, hp⟩ := mem_cut hc
      have hlen : (p ++ c :: r).length = p.length + 1 + r.length := by simp; omega
      have hix := zzIndex_ev (p ++ c :: r) [c] (by simp) (by omega) (by simp)
      rw [idxL_one_at c p r hp] at hix
      rw [splitL_at c p r hp]
      have hrec := ih r (acc ++ [B p]) (by omega) (by simp; omega)
      refine Ev.step (f := fun k => (gronx_zzIndex.f k (B (p ++ c :: r)) (B [c])).bind fun t => if t = ((0 + p.length : Nat) : Int) then gronx_zzSplit.l0 k (B r) (B [c]) (acc ++ [B p]) else gronx_zzSplit.l0 (k + 1) (B (p ++ c :: r)) (B [c]) acc) (fun k => ?_) (Ev.bind hix ?_)
      · cases hg : gronx_zzIndex.f k (B (p ++ c :: r)) (B [c]) with
        | none => simp only [gronx_zzSplit.l0, hg]; rfl
        | some t =>
          simp only [Option.bind_some]
          by_cases h : t = ((0 + p.length : Nat) : Int)
          · rw [if_pos h]
            subst h
            simp only [gronx_zzSplit.l0, hg, Option.bind_some, B_size]
            rw [if_neg (by omega), if_pos (by omega), if_pos (by rw [hlen]; omega), if_pos (by omega), wrap64_id (by simp; omega) (by simp; omega), if_pos (by simp; omega), if_pos (by rw [hlen]; simp; omega)]
            congr 1
            · rw [B_cut]
              congr 1
              simp only [Nat.zero_add, List.length_singleton]
              rw [show ((p.length : Int) + ((1 : Nat) : Int)).toNat = p.length + 1 by omega, List.drop_append, List.drop_eq_nil_of_le (by omega), show p.length + 1 - p.length = 1 by omega]
              simp only [List.nil_append, List.drop_succ_cons, List.drop_zero]
              exact List.take_of_length_le (by omega)
            · rw [B_cut]
              congr 3
              simp
          · rw [if_neg h]
      · refine Ev.congr (f := fun k => gronx_zzSplit.l0 k (B r) (B [c]) (acc ++ [B p])) (fun k => by rw [if_pos rfl]) ?_
        simpa using hrec
    · have hix := zzIndex_ev l [c] (by simp) (by omega) (by simp)
      rw [idxL_one_none c l hc] at hix
      rw [splitL_none c l hc]
      refine Ev.step (f := fun k => (gronx_zzIndex.f k (B l) (B [c])).bind fun t => if t < 0 then some (acc ++ [B l]) else gronx_zzSplit.l0 (k + 1) (B l) (B [c]) acc) (fun k => ?_) (Ev.bind hix (Ev.const (by simp)))
      cases hg : gronx_zzIndex.f k (B l) (B [c]) with
      | none => simp only [gronx_zzSplit.l0, hg]; rfl
      | some t =>
        simp only [Option.bind_some]
        by_cases h : t < 0
        · rw [if_pos h]; simp only [gronx_zzSplit.l0, hg, Option.bind_some]; rw [if_pos h, if_pos (by omega)]
        · rw [if_neg h]
theorem zzSplit_ev (c : UInt8) (l : List UInt8) (h : l.length < 8796093022208) : Ev (fun k => gronx_zzSplit.f k (B l) (B [c])) ((splitL c l).map B) := by
  have := zzSplit_from c l.length l [] (Nat.le_refl _) (by simpa using h)
  rw [List.nil_append] at this
  exact this
theorem zzReplace_no (l m q : List UInt8) (hm : m ≠ []) (hml : m.length < 4611686018427387904) (h : idxL m l 0 = -1) (hl : l.length < 140737488355328) :
    Ev (fun k => gronx_zzReplaceAll.f k (B l) (B m) (B q)) (B l) := by
  have hix := zzIndex_ev l m hm (by omega) hml
  rw [h] at hix
  unfold gronx_zzReplaceAll.f
  refine Ev.step (f := fun k => (gronx_zzIndex.f k (B l) (B m)).bind fun t => if t < 0 then some (B l) else gronx_zzReplaceAll.l0 (k + 1) (B l) (B m) (B q) []) (fun k => ?_) (Ev.bind hix (Ev.const (by simp)))
  cases hg : gronx_zzIndex.f k (B l) (B m) with
  | none => simp only [gronx_zzReplaceAll.l0, hg]; rfl
  | some t =>
    simp only [Option.bind_some]
    by_cases h : t < 0
    · rw [if_pos h]; simp only [gronx_zzReplaceAll.l0, hg, Option.bind_some]; rw [if_pos h, if_pos (by simp [B_size]; omega), List.nil_append, B_bytesOf, strOfNums_B]
    · rw [if_neg h]
theorem zzTrim_ev (l : List UInt8) (hl : l.length < 4611686018427387904) (hne : l ≠ []) (h0 : ∀ b, l.head? = some b → b ≠ 32 ∧ b ≠ 9) (h1 : ∀ b, l.getLast? = some b → b ≠ 32 ∧ b ≠ 9) :
    Ev (fun k => gronx_zzTrim.f k (B l)) (B l) := by
  have hpos : 0 < l.length := List.length_pos_iff.2 hne
  have hU : ∀ b : UInt8, b ≠ 32 → ¬ (b.toNat : Int) = 32 := fun b hb e => hb (UInt8.toNat_inj.1 (show b.toNat = 32 by omega))
  have hV : ∀ b : UInt8, b ≠ 9 → ¬ (b.toNat : Int) = 9 := fun b hb e => hb (UInt8.toNat_inj.1 (show b.toNat = 9 by omega))
  have e0 : bt (B l) 0 = ((l[0]'hpos).toNat : Int) := bt_B_at l 0 hpos
  have e1 : bt (B l) ((l.length : Int) - 1) = ((l[l.length - 1]'(by omega)).toNat : Int) := by
    have := bt_B_at l (l.length - 1) (by omega)
    rwa [show ((l.length - 1 : Nat) : Int) = (l.length : Int) - 1 by omega] at this
  have a0 := h0 (l[0]'hpos) (by rw [List.head?_eq_getElem?, List.getElem?_eq_getElem hpos])
  have a1 := h1 (l[l.length - 1]'(by omega)) (by rw [List.getLast?_eq_getElem?, List.getElem?_eq_getElem (by omega)])
  unfold gronx_zzTrim.f
  refine Ev.step (f := fun k => gronx_zzTrim.j1 k (B l)) (fun k => ?_) (Ev.step (f := fun k => gronx_zzTrim.l1 k (B l)) (fun k => by simp only [gronx_zzTrim.j1]) (Ev.done fun k => ?_))
  · simp only [gronx_zzTrim.l0, B_size]
    rw [if_pos (by omega), if_pos (by omega), e0, if_neg (hU _ a0.1), if_neg (hV _ a0.2)]
  · simp only [gronx_zzTrim.l1, B_size]
    rw [if_pos (by omega), wrap64_id (by omega) (by omega), if_pos (by omega), if_pos (by omega), e1, if_neg (hU _ a1.1), if_neg (hV _ a1.2)]
def noDbl : List UInt8 → Bool
  | a :: b :: t => !(a == 32 && b == 32) && noDbl (b :: t)
  | _ => true
theorem noDbl_idx (l : List UInt8) (h : noDbl l = true) (i : Nat) : idxL [32, 32] l i = -1 := by
  induction l generalizing i with
  | nil => rfl
  | cons a t ih =>
    unfold idxL
    cases t with
    | nil => rw [if_neg (by simp)]
    | cons b t =>
      simp only [noDbl, Bool.and_eq_true, Bool.not_eq_true', Bool.and_eq_false_iff] at h
      rw [if_pos (by simp), if_neg ?_, ih h.2]
      intro e
      simp at e
      rcases h.1 with h1 | h1
      · simp [e.1] at h1
      · simp [e.2] at h1
def plainB (b : UInt8) : Bool := b == 32 || (decide (33 ≤ b.toNat) && decide (b.toNat ≤ 63))
theorem noDbl_at (l : List UInt8) (h : noDbl l = true) (i : Nat) (h1 : i + 1 < l.length) (e : l[i]'(by omega) = 32) : l[i + 1] ≠ 32 := by
  induction l generalizing i with
  | nil => simp at h1
  | cons a t ih =>
    cases t with
    | nil => simp at h1
    | cons b t =>
      simp only [noDbl, Bool.and_eq_true, Bool.not_eq_true', Bool.and_eq_false_iff] at h
      cases i with
      | zero =>
        simp at e
        subst e
        intro e2
        simp at e2
        subst e2
        simp at h
      | succ i => exact ih h.2 i (by simpa using h1) (by simpa using e)
theorem zzSpaces_from (l : List UInt8) (hl : l.length < 140737488355328) (hd : noDbl l = true) (hp : ∀ b ∈ l, plainB b = true) :
    ∀ (d i : Nat), l.length - i = d → i ≤ l.length → ∀ (inn : Bool), (inn = true → ∃ h : 0 < i ∧ i ≤ l.length, l[i - 1]'(by omega) = 32) →
      Ev (fun k => gronx_zzSpaces.l0 k (B l) ((l.take i).map fun b => (b.toNat : Int)) inn (i : Int)) (B l) := by
  intro d
  induction d with
  | zero =>
    intro i hd' hi inn hin
    refine Ev.done fun k => ?_
    simp only [gronx_zzSpaces.l0, B_size]
    rw [if_neg (by omega), strOfNums_B, List.take_of_length_le (by omega)]
  | succ d ih =>
    intro i hd' hi inn hin
    have hlt : i < l.length := by omega
    have hb := hp _ (List.getElem_mem hlt)
    have hbt := bt_B_at l i hlt
    have htake : (l.take (i + 1)).map (fun b => (b.toNat : Int)) = (l.take i).map (fun b => (b.toNat : Int)) ++ [(l[i].toNat : Int)] := by
      rw [List.take_succ_eq_append_getElem hlt, List.map_append]; rfl
    by_cases hs : l[i] = 32
    · have hin0 : inn = false := by
        cases inn with
        | false => rfl
        | true =>
          obtain ⟨hh, e⟩ := hin rfl
          have := noDbl_at l hd (i - 1) (by omega) e
          simp only [show i - 1 + 1 = i by omega] at this
          exact absurd hs this
      subst hin0
      refine Ev.step (f := fun k => gronx_zzSpaces.j1 k (B l) ((l.take i).map fun b => (b.toNat : Int)) false (i : Int) true) (fun k => ?_) ?_
      · simp only [gronx_zzSpaces.l0, B_size]
        rw [if_pos (by omega), if_pos (by omega), hbt, hs, if_pos (by rfl)]
        rfl
      · refine Ev.step (f := fun k => gronx_zzSpaces.l0 k (B l) ((l.take (i + 1)).map fun b => (b.toNat : Int)) true ((i + 1 : Nat) : Int)) (fun k => ?_) (ih (i + 1) (by omega) (by omega) true (fun _ => ⟨⟨by omega, by omega⟩, by simpa using hs⟩))
        simp only [gronx_zzSpaces.j1]
        rw [if_pos trivial, if_neg (by simp), if_pos (by simp; omega), wrap64_nat i (by omega), htake, hs]
        rfl
    · have hge : 33 ≤ l[i].toNat ∧ l[i].toNat ≤ 63 := by
        simp only [plainB, Bool.or_eq_true, beq_iff_eq, Bool.and_eq_true, decide_eq_true_eq] at hb
        rcases hb with hb | hb
        · exact absurd hb hs
        · exact hb
      refine Ev.step (f := fun k => gronx_zzSpaces.j1 k (B l) ((l.take i).map fun b => (b.toNat : Int)) inn (i : Int) false) (fun k => ?_) ?_
      · simp only [gronx_zzSpaces.l0, B_size]
        rw [if_pos (by omega), if_pos (by omega), hbt, if_neg (by omega), if_neg (by omega), if_neg (by omega), if_neg (by omega), show ((l[i].toNat : Int) == 13) = false by simp; omega]
      · refine Ev.step (f := fun k => gronx_zzSpaces.l0 k (B l) ((l.take (i + 1)).map fun b => (b.toNat : Int)) false ((i + 1 : Nat) : Int)) (fun k => ?_) (ih (i + 1) (by omega) (by omega) false (by simp))
        simp only [gronx_zzSpaces.j1, B_size]
        rw [if_neg (by simp), if_pos (by omega), if_pos (by omega), if_pos (by simp; omega), wrap64_nat i (by omega), htake, hbt]
theorem zzSpaces_ev (l : List UInt8) (hl : l.length < 140737488355328) (hd : noDbl l = true) (hp : ∀ b ∈ l, plainB b = true) : Ev (fun k => gronx_zzSpaces.f k (B l)) (B l) := by
  have := zzSpaces_from l hl hd hp l.length 0 (by simp) (by omega) false (by simp)
  simpa [gronx_zzSpaces.f] using this
theorem literal_no (l : List UInt8) (h : ∀ b ∈ l, b.toNat ≤ 63) : gronx_literal.f (B l) = some (B []) := by
  have hne : ∀ (c d e : UInt8), 65 ≤ c.toNat → ¬ l = [c, d, e] := by
    intro c d e hc heq
    have := h c (by simp [heq])
    omega
  unfold gronx_literal.f
  simp only [B_list]
  repeat rw [if_neg (hne _ _ _ (by decide))]
  rfl
theorem zzLiterals_from (l : List UInt8) (hl : l.length < 140737488355328) (hp : ∀ b ∈ l, b.toNat ≤ 63) :
    ∀ (d i : Nat), l.length - i = d → i ≤ l.length → Ev (fun k => gronx_zzLiterals.l0 k (B l) ((l.take i).map fun b => (b.toNat : Int)) (i : Int)) (B l) := by
  intro d
  induction d with
  | zero =>
    intro i hd' hi
    refine Ev.done fun k => ?_
    simp only [gronx_zzLiterals.l0, B_size]
    rw [if_neg (by omega), strOfNums_B, List.take_of_length_le (by omega)]
  | succ d ih =>
    intro i hd' hi
    have hlt : i < l.length := by omega
    have hbt := bt_B_at l i hlt
    have htake : (l.take (i + 1)).map (fun b => (b.toNat : Int)) = (l.take i).map (fun b => (b.toNat : Int)) ++ [(l[i].toNat : Int)] := by
      rw [List.take_succ_eq_append_getElem hlt, List.map_append]; rfl
    refine Ev.step (f := fun k => gronx_zzLiterals.l0 k (B l) ((l.take (i + 1)).map fun b => (b.toNat : Int)) ((i + 1 : Nat) : Int)) (fun k => ?_) (ih (i + 1) (by omega) (by omega))
    simp only [gronx_zzLiterals.l0, B_size]
    rw [if_pos (by omega), wrap64_id (i := (i : Int) + 3) (by omega) (by omega)]
    by_cases h3 : i + 3 ≤ l.length
    · rw [if_pos (by omega), if_pos (by omega), if_pos (by omega), B_cut, literal_no _ (fun b hb => hp b (List.mem_of_mem_drop (List.mem_of_mem_take hb)))]
      simp only [Option.bind_some]
      rw [B_list, if_pos rfl, if_pos (by simp; omega), wrap64_nat i (by omega), htake, hbt]
    · rw [if_neg (by omega), if_pos (by omega), if_pos (by simp; omega), wrap64_nat i (by omega), htake, hbt]
theorem zzLiterals_ev (l : List UInt8) (hl : l.length < 140737488355328) (hp : ∀ b ∈ l, b.toNat ≤ 63) : Ev (fun k => gronx_zzLiterals.f k (B l)) (B l) := by
  have := zzLiterals_from l hl hp l.length 0 (by simp) (by omega)
  simpa [gronx_zzLiterals.f] using this
def hasYr : List UInt8 → Nat → Bool
  | [], _ => false
  | b :: t, n => if b.toNat < 48 ∨ 57 < b.toNat then hasYr t 0 else if n + 1 = 4 then true else hasYr t (n + 1)
theorem zzHasYear_from (l : List UInt8) (hl : l.length < 4611686018427387904) :
    ∀ (rest : List UInt8) (i n : Nat), l.drop i = rest → i ≤ l.length → n < 4 → Ev (fun k => gronx_zzHasYear.l0 k (B l) (n : Int) (i : Int)) (hasYr rest n) := by
  intro rest
  induction rest with
  | nil =>
    intro i n hi hil hn
    have hlen : l.length ≤ i := List.drop_eq_nil_iff.1 hi
    refine Ev.done fun k => ?_
    simp only [gronx_zzHasYear.l0, B_size]
    rw [if_neg (by omega)]
    rfl
  | cons b t ih =>
    intro i n hi hil hn
    have hlt : i < l.length := by
      rcases Nat.lt_or_ge i l.length with h | h
      · exact h
      · rw [List.drop_eq_nil_of_le h] at hi; cases hi
    have hbi : l[i] = b := by
      have := List.drop_eq_getElem_cons hlt
      rw [hi] at this
      exact (List.cons.inj this).1.symm
    have ht : l.drop (i + 1) = t := by rw [← List.drop_drop, hi]; rfl
    have hbt := bt_B_at l i hlt
    rw [hbi] at hbt
    unfold hasYr
    by_cases h1 : b.toNat < 48 ∨ 57 < b.toNat
    · rw [if_pos h1]
      refine Ev.step (f := fun k => gronx_zzHasYear.j1 k (B l) (n : Int) (i : Int) true) (fun k => ?_) (Ev.step (f := fun k => gronx_zzHasYear.l0 k (B l) ((0 : Nat) : Int) ((i + 1 : Nat) : Int)) (fun k => ?_) (ih (i + 1) 0 ht (by omega) (by omega)))
      · simp only [gronx_zzHasYear.l0, B_size]
        rw [if_pos (by omega), if_pos (by omega), hbt]
        by_cases h2 : (b.toNat : Int) < 48
        · rw [if_pos h2]
        · rw [if_neg h2, show decide ((b.toNat : Int) > 57) = true from decide_eq_true (by omega)]
      · simp only [gronx_zzHasYear.j1]
        rw [if_pos trivial, wrap64_nat i (by omega)]
        rfl
    · rw [if_neg h1]
      by_cases h2 : n + 1 = 4
      · rw [if_pos h2]
        refine Ev.step (f := fun k => gronx_zzHasYear.j1 k (B l) (n : Int) (i : Int) false) (fun k => ?_) (Ev.done fun k => ?_)
        · simp only [gronx_zzHasYear.l0, B_size]
          rw [if_pos (by omega), if_pos (by omega), hbt, if_neg (by omega), show decide ((b.toNat : Int) > 57) = false from decide_eq_false (by omega)]
        · simp only [gronx_zzHasYear.j1]
          rw [if_neg (by simp), wrap64_nat n (by omega), if_pos (by omega)]
      · rw [if_neg h2]
        refine Ev.step (f := fun k => gronx_zzHasYear.j1 k (B l) (n : Int) (i : Int) false) (fun k => ?_) (Ev.step (f := fun k => gronx_zzHasYear.l0 k (B l) ((n + 1 : Nat) : Int) ((i + 1 : Nat) : Int)) (fun k => ?_) (ih (i + 1) (n + 1) ht (by omega) (by omega)))
        · simp only [gronx_zzHasYear.l0, B_size]
          rw [if_pos (by omega), if_pos (by omega), hbt, if_neg (by omega), show decide ((b.toNat : Int) > 57) = false from decide_eq_false (by omega)]
        · simp only [gronx_zzHasYear.j1]
          rw [if_neg (by simp), wrap64_nat n (by omega), if_neg (by omega), wrap64_nat i (by omega)]
theorem zzHasYear_ev (l : List UInt8) (hl : l.length < 4611686018427387904) : Ev (fun k => gronx_zzHasYear.f k (B l)) (hasYr l 0) := by
  have := zzHasYear_from l hl l 0 0 rfl (Nat.zero_le _) (by omega)
  simpa [gronx_zzHasYear.f] using this
theorem toLower_plain (l : List UInt8) (hl : l.length ≤ 140737488355328) (hp : ∀ b ∈ l, b.toNat ≤ 63) : strings_ToLower.f (B l) = some (B l) := by
  unfold strings_ToLower.f
  rw [B_size, if_pos hl, if_pos (by unfold isAscii; rw [B_data, List.all_eq_true]; intro b hb; exact decide_eq_true (by have := hp b hb; omega))]
  rw [B_data]
  have : Lib.toLowerA l = l := by
    unfold Lib.toLowerA
    conv => rhs; rw [← List.map_id l]
    apply List.map_congr_left
    intro b hb
    have h := hp b hb
    have hu : Lib.isUpperB b = false := by
      unfold Lib.isUpperB
      rw [Bool.and_eq_false_iff]
      exact Or.inl (decide_eq_false (by rw [UInt8.le_iff_toNat_le]; show ¬ 65 ≤ b.toNat; omega))
    simp [Lib.lowerB, hu]
  rw [this]
  rfl
theorem toUpper_plain (l : List UInt8) (hl : l.length ≤ 140737488355328) (hp : ∀ b ∈ l, b.toNat ≤ 63) : strings_ToUpper.f (B l) = some (B l) := by
  unfold strings_ToUpper.f
  rw [B_size, if_pos hl, if_pos (by unfold isAscii; rw [B_data, List.all_eq_true]; intro b hb; exact decide_eq_true (by have := hp b hb; omega))]
  rw [B_data]
  have : Lib.toUpperA l = l := by
    unfold Lib.toUpperA
    conv => rhs; rw [← List.map_id l]
    apply List.map_congr_left
    intro b hb
    have h := hp b hb
    have hu : Lib.isLowerB b = false := by
      unfold Lib.isLowerB
      rw [Bool.and_eq_false_iff]
      exact Or.inl (decide_eq_false (by rw [UInt8.le_iff_toNat_le]; show ¬ 97 ≤ b.toNat; omega))
    simp [Lib.upperB, hu]
  rw [this]
  rfl
theorem expression_no (l : List UInt8) (hp : ∀ b ∈ l, b.toNat ≤ 63) : gronx_expression.f (B l) = some (B [], false) := by
  have hne : ∀ (m : List UInt8), ¬ l = 64 :: m := by
    intro m e
    have := hp 64 (by simp [e])
    simp at this
  unfold gronx_expression.f
  simp only [B_list]
  repeat rw [if_neg (hne _)]
  rfl
end Go.Proofs.YtkhgeonlohafgaaGreatDoor.Core
namespace Go.Proofs.YtkhgeonlohafgaaGreatDoor.Core
open Go.RowKit Go.Proofs.YtkhgeonlohafgaaGreatDoorW.PrintWords
theorem decN_small (n : Nat) (h : n < 100) : decN n = if n < 10 then [UInt8.ofNat (48 + n)] else [UInt8.ofNat (48 + n / 10), UInt8.ofNat (48 + n % 10)] := by
  split
  · rename_i h1; exact decN_lt n h1
  · rename_i h1; rw [decN_ge n h1, decN_lt (n / 10) (by omega)]; rfl
theorem atoi_table : ∀ n : Fin 100, Lib.atoi (if n.val < 10 then [UInt8.ofNat (48 + n.val)] else [UInt8.ofNat (48 + n.val / 10), UInt8.ofNat (48 + n.val % 10)]) = some (n.val : Int) := by decide +kernel
theorem atoi_two (n : Nat) (h : n < 100) : strconv_Atoi.f (B (decN n)) = some ((n : Int), none) := by
  unfold strconv_Atoi.f
  have hl := decN_length n 1 (by simpa using h)
  rw [B_size, if_pos (by omega), B_data, decN_small n h, atoi_table ⟨n, h⟩]
  rfl
theorem dec_no (n : Nat) (c : UInt8) (hc : c.toNat < 48 ∨ 57 < c.toNat) : c ∉ decN n := fun e => by have := decN_digit n c e; omega
def loB (i : Nat) : Int := if i = 3 ∨ i = 4 then 1 else 0
def hiB (i : Nat) : Int := [59, 59, 23, 31, 12, 7, 9999].getD i 0
theorem bounds_ev (i : Nat) (hi : i ≤ 6) : Ev (fun k => gronx_boundsByPos.f k (i : Int)) [loB i, hiB i] := by
  match i, hi with
  | 0, _ => exact Ev.done fun k => rfl
  | 1, _ => exact Ev.done fun k => rfl
  | 2, _ => exact Ev.done fun k => rfl
  | 3, _ => exact Ev.done fun k => rfl
  | 4, _ => exact Ev.done fun k => rfl
  | 5, _ => exact Ev.done fun k => rfl
  | 6, _ => exact Ev.done fun k => rfl
theorem contains_no (c : UInt8) (l : List UInt8) (h : c ∉ l) (hl : l.length < 4611686018427387904) : Ev (fun k => gronx_zzContains.f k (B l) (B [c])) false := by
  unfold gronx_zzContains.f
  have := zzIndex_ev l [c] (by simp) hl (by simp)
  rw [idxL_one_none c l h 0] at this
  exact Ev.bind this (Ev.const rfl)
end Go.Proofs.YtkhgeonlohafgaaGreatDoor.Core
namespace Go.Proofs.YtkhgeonlohafgaaGreatDoor.Core
open Go.RowKit Go.Proofs.YtkhgeonlohafgaaGreatDoorW.PrintWords
theorem Ev.succ {α : Type} {g : Nat → Option α} {r : α} (h : Ev (fun k => g (k + 1)) r) : Ev g r := Ev.step (fun _ => rfl) h
theorem off_enter (c : Option Addr) (l : List UInt8) (val : Int) (i : Int) (h42 : l ≠ [42]) (h63 : l ≠ [63]) {r : Bool × Option Int} (h : Ev (fun k => gronx_SegmentChecker_isOffsetDue.j0 k (B l) val i false) r) : Ev (fun k => gronx_SegmentChecker_isOffsetDue.f k c (B l) val i) r := by
  refine Ev.congr (fun k => ?_) h
  unfold gronx_SegmentChecker_isOffsetDue.f
  rw [B_list, if_neg h42, beq_eq_false_iff_ne.mpr h63]
theorem num_j1 (i : Nat) (val n : Int) (h : i = 5 → n ≤ 6) : Ev (fun k => gronx_SegmentChecker_isOffsetDue.j1 k val ((i : Int) == 5) n false) (decide (n = val), none) := by
  refine Ev.done fun k => ?_
  simp only [gronx_SegmentChecker_isOffsetDue.j1]
  rw [if_neg (by simp)]
  by_cases h5 : i = 5
  · have := h h5
    rw [if_pos (by simp; omega)]
    by_cases e : n = val
    · rw [if_pos e, decide_eq_true e]
    · rw [if_neg e, if_neg (by omega), decide_eq_false e]
  · rw [if_neg (by simp; omega)]
    by_cases v0 : val = 0
    · rw [if_pos v0]
      by_cases n0 : n = 0
      · rw [if_pos n0, decide_eq_true (by omega)]; simp [v0]
      · rw [if_neg n0, decide_eq_false (by omega)]
    · rw [if_neg v0]
      by_cases n0 : n = 0
      · rw [if_pos n0, decide_eq_false (by omega)]; simp [v0]
      · rw [if_neg n0]
        by_cases e : n = val
        · rw [if_pos e, decide_eq_true e]
        · rw [if_neg e, decide_eq_false e]
theorem dec_head (n : Nat) (r : List UInt8) : ∃ b t, decN n ++ r = b :: t ∧ 48 ≤ b.toNat ∧ b.toNat ≤ 57 := by
  match h : decN n, decN_ne n with
  | b :: t, _ => exact ⟨b, t ++ r, rfl, decN_digit n b (by rw [h]; simp)⟩
theorem dec_ne (n : Nat) (r : List UInt8) (c : UInt8) (t : List UInt8) (hc : c.toNat < 48 ∨ 57 < c.toNat) : decN n ++ r ≠ c :: t := by
  obtain ⟨b, s, e, h1, h2⟩ := dec_head n r
  rw [e]
  intro h
  have := (List.cons.inj h).1
  subst this
  omega
theorem off_num (c : Option Addr) (n : Nat) (hn : n < 100) (i : Nat) (hi : i ≤ 6) (val : Int) (lo : loB i ≤ (n : Int)) (hi' : (n : Int) ≤ hiB i) (h5 : i = 5 → n ≤ 6) :
    Ev (fun k => gronx_SegmentChecker_isOffsetDue.f k c (B (decN n)) val (i : Int)) (decide ((n : Int) = val), none) := by
  have hl := decN_length n 1 (by simpa using hn)
  refine off_enter c _ val i (by have := dec_ne n [] 42 [] (by decide); simpa using this) (by have := dec_ne n [] 63 [] (by decide); simpa using this) (Ev.succ ?_)
  simp only [gronx_SegmentChecker_isOffsetDue.j0, Bool.false_eq_true, if_false]
  refine Ev.bind (bounds_ev i hi) (Ev.bind (contains_no 47 _ (dec_no n 47 (by decide)) (by omega)) ?_)
  simp only [Bool.false_eq_true, if_false]
  refine Ev.bind (contains_no 45 _ (dec_no n 45 (by decide)) (by omega)) ?_
  simp only [Bool.false_eq_true, if_false, atoi_two n hn, Option.bind_some, Option.isNone_none, if_true]
  refine Ev.congr (fun k => ?_) (num_j1 i val n (fun h => by have := h5 h; omega))
  show (if (0 : Int) < 2 then (if (n : Int) < loB i then gronx_SegmentChecker_isOffsetDue.j1 k val ((i : Int) == 5) n true else (if (1 : Int) < 2 then gronx_SegmentChecker_isOffsetDue.j1 k val ((i : Int) == 5) n (decide ((n : Int) > hiB i)) else none)) else none) = _
  rw [if_pos (by omega), if_neg (by omega), if_pos (by omega), decide_eq_false (by omega)]
end Go.Proofs.YtkhgeonlohafgaaGreatDoor.Core
namespace Go.Proofs.YtkhgeonlohafgaaGreatDoor.Core
open Go.RowKit Go.Proofs.YtkhgeonlohafgaaGreatDoorW.PrintWords Go.Proofs.YtkhgeonlohafgaaGreatDoorW.PrintLast Go.Proofs.YtkhgeonlohafgaaGreatDoorW.PrintMore
attribute [local go_sem] max2_int min2_int max_two min_two max_three min_three max_four min_four   -- for this text's walks alone
set_option linter.unusedVariables false
set_option linter.unusedSimpArgs false
def gronx_normalize.j0 : Nat → ByteArray → Option (List ByteArray)
  | 0, _ => none
  | k + 1, x0 => (gronx_zzSpaces.f k x0).bind fun t232 => ((strings_ToUpper.f t232).bind fun t233 => ((gronx_zzLiterals.f k t233).bind fun t234 => ((gronx_zzReplaceAll.f k t234 (⟨#[32, 32]⟩ : ByteArray) (⟨#[32]⟩ : ByteArray)).bind fun t235 => ((gronx_zzSplit.f k t235 (⟨#[32]⟩ : ByteArray)).bind fun t236 => (some t236)))))
def gronx_normalize.f (k : Nat) (a0 : ByteArray) : Option (List ByteArray) := (gronx_zzTrim.f k a0).bind fun t228 => ((strings_ToLower.f t228).bind fun t229 => ((gronx_expression.f t229).bind fun bt230 => (if bt230.2 = true then (gronx_normalize.j0 k bt230.1) else (gronx_normalize.j0 k t228))))
theorem gronx_normalize.mono_l : ∀ k, (∀ y0, LeO (gronx_normalize.j0 k y0) (gronx_normalize.j0 (k + 1) y0))
  | 0 => fun _ r h => by simp [gronx_normalize.j0] at h
  | k + 1 => by
    have ih0 := gronx_normalize.mono_l k
    · intro y0
      unfold gronx_normalize.j0
      repeat' first
      | (with_reducible exact ih0 _)
      | (with_reducible exact gronx_zzLiterals.mono _ _)
      | (with_reducible exact gronx_zzReplaceAll.mono _ _ _ _)
      | (with_reducible exact gronx_zzSpaces.mono _ _)
      | (with_reducible exact gronx_zzSplit.mono _ _ _)
      | (with_reducible exact gronx_zzTrim.mono _ _)
      | (with_reducible exact LeO.refl _)
      | (with_reducible exact LeO.none _)
      | (with_reducible refine LeO.ite ?_ ?_)
      | (with_reducible refine LeO.bind ?_ (fun _ => ?_))
      | exact ih0 _
      | exact gronx_zzLiterals.mono _ _
      | exact gronx_zzReplaceAll.mono _ _ _ _
      | exact gronx_zzSpaces.mono _ _
      | exact gronx_zzSplit.mono _ _ _
      | exact gronx_zzTrim.mono _ _
      | exact LeO.none _
      | refine LeO.ite ?_ ?_
      | refine LeO.bind ?_ (fun _ => ?_)
theorem gronx_normalize.mono : ∀ a0 k, LeO (gronx_normalize.f k a0) (gronx_normalize.f (k + 1) a0) := by
  intro a0 k
  have ih0 := gronx_normalize.mono_l k
  unfold gronx_normalize.f
  repeat' first
      | (with_reducible exact ih0 _)
      | (with_reducible exact gronx_zzLiterals.mono _ _)
      | (with_reducible exact gronx_zzReplaceAll.mono _ _ _ _)
      | (with_reducible exact gronx_zzSpaces.mono _ _)
      | (with_reducible exact gronx_zzSplit.mono _ _ _)
      | (with_reducible exact gronx_zzTrim.mono _ _)
      | (with_reducible exact LeO.refl _)
      | (with_reducible exact LeO.none _)
      | (with_reducible refine LeO.ite ?_ ?_)
      | (with_reducible refine LeO.bind ?_ (fun _ => ?_))
      | exact ih0 _
      | exact gronx_zzLiterals.mono _ _
      | exact gronx_zzReplaceAll.mono _ _ _ _
      | exact gronx_zzSpaces.mono _ _
      | exact gronx_zzSplit.mono _ _ _
      | exact gronx_zzTrim.mono _ _
      | exact LeO.none _
      | refine LeO.ite ?_ ?_
      | refine LeO.bind ?_ (fun _ => ?_)
set_option maxHeartbeats 8000000 in
set_option maxRecDepth 100000 in
theorem gronx_normalize.calls (k : Nat) (a0 : ByteArray) (r : List ByteArray) (w : World) (h : gronx_normalize.f k a0 = some r) :
    Calls Tryz.prog 50 #[.string a0] w fun e w' => ∃ v0_ : Value, e = .returned (v0_) ∧ Kd.R Kd.string 9 w' w.heap.size (fun _ => True) v0_ r ∧ Below w.heap.size w w' := by
  have HB := Aside0.mk (Below.refl w.heap.size w)
  have H : ((gronx_zzTrim.f k a0).bind fun t228 => ((strings_ToLower.f t228).bind fun t229 => ((gronx_expression.f t229).bind fun bt230 => (if bt230.2 = true then (gronx_normalize.j0 k bt230.1) else (gronx_normalize.j0 k t228))))) = some r := h
  clear h
  replace H := Option.bind_eq_some_iff.mp H
  obtain ⟨t228, A20, H⟩ := H
  replace H : ((strings_ToLower.f t228).bind fun t229 => ((gronx_expression.f t229).bind fun bt230 => (if bt230.2 = true then (gronx_normalize.j0 k bt230.1) else (gronx_normalize.j0 k t228)))) = some r := H
  have A2 := Aside0.mk A20
  clear A20
  replace H := Option.bind_eq_some_iff.mp H
  obtain ⟨t229, A30, H⟩ := H
  replace H : ((gronx_expression.f t229).bind fun bt230 => (if bt230.2 = true then (gronx_normalize.j0 k bt230.1) else (gronx_normalize.j0 k t228))) = some r := H
  have A3 := Aside0.mk A30
  clear A30
  replace H := Option.bind_eq_some_iff.mp H
  obtain ⟨⟨t230, t231⟩, A40, H⟩ := H
  replace H : (if t231 = true then (gronx_normalize.j0 k t230) else (gronx_normalize.j0 k t228)) = some r := H
  have A4 := Aside0.mk A40
  clear A40
  have HC5 := Aside0.mk H
  clear H
  go_enter Tryz.func50, Tryz.ntmps50
  go_upto_if 13 with (first | ((with_reducible refine gate_callee (f := 73) rfl ?_); refine goesL_ (some 6) rfl rfl Tryz.func73 (by kernel_rfl) rfl #[.string a0] rfl (by (try simp only [List.map_toArray, List.map_cons, List.map_nil]); first | done | rfl | (simp only [List.length_drop, List.length_take]; rfl)) ?_; (with_reducible refine (gronx_zzTrim.calls k a0 t228 _ A2.out).mono ?_); rintro e w' ⟨rfl, ⟨nd, rfl⟩⟩; refine ⟨_, rfl, ?_⟩) | ((with_reducible refine gate_callee (f := 75) rfl ?_); refine goesL_ (some 9) rfl rfl Tryz.func75 (by kernel_rfl) rfl #[.string t228] rfl (by (try simp only [List.map_toArray, List.map_cons, List.map_nil]); first | done | rfl | (simp only [List.length_drop, List.length_take]; rfl)) ?_; (with_reducible refine (strings_ToLower.calls t228 t229 _ A3.out).mono ?_); rintro e w6 ⟨rfl, hb⟩; refine ⟨_, rfl, ?_⟩; have n0_ := Aside0.mk (below_step (by repeat (first | (with_reducible first | exact HB.out | apply below_alloc | apply pw_below_drewN | apply below_drew1) | exact HB.out)) hb); clear HB; have HB := n0_; clear n0_; (try clear hb); (try clear hb2); (try clear hk); (try clear hi)) | ((with_reducible refine gate_callee (f := 74) rfl ?_); refine goesL_ (some 10) rfl rfl Tryz.func74 (by kernel_rfl) rfl #[.string t229] rfl (by (try simp only [List.map_toArray, List.map_cons, List.map_nil]); first | done | rfl | (simp only [List.length_drop, List.length_take]; rfl)) ?_; (with_reducible refine (gronx_expression.calls t229 t230 t231 _ A4.out).mono ?_); rintro e w' ⟨rfl, ⟨nd, rfl⟩⟩; refine ⟨_, rfl, ?_⟩))
  (try simp only [Act.put, List.setIfInBounds_toArray, List.set_cons_zero, List.set_cons_succ])
  go_cut [0] (fun v0 wc => ∃ (kq : Nat) (x0_4 : ByteArray), v0 = .string x0_4 ∧ Aside0 (gronx_normalize.j0 kq x0_4 = some r) ∧ Aside0 (kq ≤ k) ∧ Aside0 (Below w.heap.size w wc))
  case first =>
    have H := HC5.out
    clear HC5
    by_cases c7 : t231 = true
    · subst c7
      have H1 : (gronx_normalize.j0 k t230) = some r := by rw [if_pos rfl] at H; exact H
      clear H
      have H := H1
      clear H1
      have H' := Aside0.mk H
      clear H
      go_wp2
      go_meet
      case rel => exact ⟨_, (t230), (by first | rfl | (simp; done) | (simp [*]; done)), H', ⟨by first | omega | exact Nat.le_refl _⟩, ⟨by repeat (first | (with_reducible first | exact HB.out | apply below_alloc | apply pw_below_drewN | apply below_drew1) | exact HB.out)⟩⟩
    · replace c7 := Bool.eq_false_iff.mpr c7
      subst c7
      have H1 : (gronx_normalize.j0 k t228) = some r := by rw [if_neg (show ¬ (false = true) by decide)] at H; exact H
      clear H
      have H := H1
      clear H1
      have H' := Aside0.mk H
      clear H
      go_wp2
      go_meet
      case rel => exact ⟨_, (t228), (by first | rfl | (simp; done) | (simp [*]; done)), H', ⟨by first | omega | exact Nat.le_refl _⟩, ⟨by repeat (first | (with_reducible first | exact HB.out | apply below_alloc | apply pw_below_drewN | apply below_drew1) | exact HB.out)⟩⟩
  case rest =>
    clear HC5
    try clear p2
    try clear c5
    try clear c7
    obtain ⟨kq, x0_4, rfl, HA, HJ4, HB⟩ := hcut
    cases kq with
    | zero => exact absurd HA.out (by simp [gronx_normalize.j0])
    | succ kj4 =>
      have H := HA.out
      clear HA
      simp only [gronx_normalize.j0] at H
      replace H := Option.bind_eq_some_iff.mp H
      obtain ⟨t232, A80, H⟩ := H
      replace H : ((strings_ToUpper.f t232).bind fun t233 => ((gronx_zzLiterals.f kj4 t233).bind fun t234 => ((gronx_zzReplaceAll.f kj4 t234 (⟨#[32, 32]⟩ : ByteArray) (⟨#[32]⟩ : ByteArray)).bind fun t235 => ((gronx_zzSplit.f kj4 t235 (⟨#[32]⟩ : ByteArray)).bind fun t236 => (some t236))))) = some r := H
      have A8 := Aside0.mk A80
      clear A80
      replace H := Option.bind_eq_some_iff.mp H
      obtain ⟨t233, A90, H⟩ := H
      replace H : ((gronx_zzLiterals.f kj4 t233).bind fun t234 => ((gronx_zzReplaceAll.f kj4 t234 (⟨#[32, 32]⟩ : ByteArray) (⟨#[32]⟩ : ByteArray)).bind fun t235 => ((gronx_zzSplit.f kj4 t235 (⟨#[32]⟩ : ByteArray)).bind fun t236 => (some t236)))) = some r := H
      have A9 := Aside0.mk A90
      clear A90
      replace H := Option.bind_eq_some_iff.mp H
      obtain ⟨t234, A100, H⟩ := H
      replace H : ((gronx_zzReplaceAll.f kj4 t234 (⟨#[32, 32]⟩ : ByteArray) (⟨#[32]⟩ : ByteArray)).bind fun t235 => ((gronx_zzSplit.f kj4 t235 (⟨#[32]⟩ : ByteArray)).bind fun t236 => (some t236))) = some r := H
      have A10 := Aside0.mk A100
      clear A100
      replace H := Option.bind_eq_some_iff.mp H
      obtain ⟨t235, A110, H⟩ := H
      replace H : ((gronx_zzSplit.f kj4 t235 (⟨#[32]⟩ : ByteArray)).bind fun t236 => (some t236)) = some r := H
      have A11 := Aside0.mk A110
      clear A110
      replace H := Option.bind_eq_some_iff.mp H
      obtain ⟨t236, A120, H⟩ := H
      replace H : (some t236) = some r := H
      have A12 := Aside0.mk A120
      clear A120
      obtain rfl := Option.some.inj H
      go_wp2_with (first | ((with_reducible refine gate_callee (f := 76) rfl ?_); refine goesL_ (some 16) rfl rfl Tryz.func76 (by kernel_rfl) rfl #[.string x0_4] rfl (by (try simp only [List.map_toArray, List.map_cons, List.map_nil]); first | done | rfl | (simp only [List.length_drop, List.length_take]; rfl)) ?_; (with_reducible refine (gronx_zzSpaces.calls kj4 x0_4 t232 _ A8.out).mono ?_); rintro e w13 ⟨rfl, hb⟩; refine ⟨_, rfl, ?_⟩; have n0_ := Aside0.mk (below_step (by repeat (first | (with_reducible first | exact HB.out | apply below_alloc | apply pw_below_drewN | apply below_drew1) | exact HB.out)) hb); clear HB; have HB := n0_; clear n0_; (try clear hb); (try clear hb2); (try clear hk); (try clear hi)) | ((with_reducible refine gate_callee (f := 78) rfl ?_); refine goesL_ (some 18) rfl rfl Tryz.func78 (by kernel_rfl) rfl #[.string t232] rfl (by (try simp only [List.map_toArray, List.map_cons, List.map_nil]); first | done | rfl | (simp only [List.length_drop, List.length_take]; rfl)) ?_; (with_reducible refine (strings_ToUpper.calls t232 t233 _ A9.out).mono ?_); rintro e w14 ⟨rfl, hb⟩; refine ⟨_, rfl, ?_⟩; have n0_ := Aside0.mk (below_step (by repeat (first | (with_reducible first | exact HB.out | apply below_alloc | apply pw_below_drewN | apply below_drew1) | exact HB.out)) hb); clear HB; have HB := n0_; clear n0_; (try clear hb); (try clear hb2); (try clear hk); (try clear hi)) | ((with_reducible refine gate_callee (f := 77) rfl ?_); refine goesL_ (some 19) rfl rfl Tryz.func77 (by kernel_rfl) rfl #[.string t233] rfl (by (try simp only [List.map_toArray, List.map_cons, List.map_nil]); first | done | rfl | (simp only [List.length_drop, List.length_take]; rfl)) ?_; (with_reducible refine (gronx_zzLiterals.calls kj4 t233 t234 _ A10.out).mono ?_); rintro e w15 ⟨rfl, hb⟩; refine ⟨_, rfl, ?_⟩; have n0_ := Aside0.mk (below_step (by repeat (first | (with_reducible first | exact HB.out | apply below_alloc | apply pw_below_drewN | apply below_drew1) | exact HB.out)) hb); clear HB; have HB := n0_; clear n0_; (try clear hb); (try clear hb2); (try clear hk); (try clear hi)) | ((with_reducible refine gate_callee (f := 79) rfl ?_); refine goesL_ (some 21) rfl rfl Tryz.func79 (by kernel_rfl) rfl #[.string t234, .string (⟨#[32, 32]⟩ : ByteArray), .string (⟨#[32]⟩ : ByteArray)] rfl (by (try simp only [List.map_toArray, List.map_cons, List.map_nil]); first | done | rfl | (simp only [List.length_drop, List.length_take]; rfl)) ?_; (with_reducible refine (gronx_zzReplaceAll.calls kj4 t234 (⟨#[32, 32]⟩ : ByteArray) (⟨#[32]⟩ : ByteArray) t235 _ A11.out).mono ?_); rintro e w16 ⟨rfl, hb⟩; refine ⟨_, rfl, ?_⟩; have n0_ := Aside0.mk (below_step (by repeat (first | (with_reducible first | exact HB.out | apply below_alloc | apply pw_below_drewN | apply below_drew1) | exact HB.out)) hb); clear HB; have HB := n0_; clear n0_; (try clear hb); (try clear hb2); (try clear hk); (try clear hi)) | ((with_reducible refine gate_callee (f := 54) rfl ?_); refine goesL_ (some 22) rfl rfl Tryz.func54 (by kernel_rfl) rfl #[.string t235, .string (⟨#[32]⟩ : ByteArray)] rfl (by (try simp only [List.map_toArray, List.map_cons, List.map_nil]); first | done | rfl | (simp only [List.length_drop, List.length_take]; rfl)) ?_; (with_reducible refine (gronx_zzSplit.calls kj4 t235 (⟨#[32]⟩ : ByteArray) t236 _ A12.out).mono ?_); rintro e w17 ⟨v237, rfl, ho0, hb⟩; refine ⟨_, rfl, ?_⟩; have n0_ := Aside0.mk (Kd.R_lower ho0 (below_size (by repeat (first | (with_reducible first | exact HB.out | apply below_alloc | apply pw_below_drewN | apply below_drew1) | exact HB.out)))); have n1_ := Aside0.mk (below_step (by repeat (first | (with_reducible first | exact HB.out | apply below_alloc | apply pw_below_drewN | apply below_drew1) | exact HB.out)) hb); clear HB; have HO238 := n0_; have HB := n1_; clear n0_ n1_; (try clear hb); (try clear hb2); (try clear hk); (try clear hi); (try clear ho0)))
      go_ret
      exact ⟨_, by first | rfl | (simp [errW_none, errW_some] <;> rfl) | (simp [*, errW_none, errW_some] <;> rfl), by (with_reducible repeat (first | apply Kd.R_alloc | apply Kd.R_drewN | apply Kd.R_drew)); exact HO238.out, by repeat (first | (with_reducible first | exact HB.out | apply below_alloc | apply pw_below_drewN | apply below_drew1) | exact HB.out)⟩
end Go.Proofs.YtkhgeonlohafgaaGreatDoor.Core
namespace Go.Proofs.YtkhgeonlohafgaaGreatDoor.Core
open Go.RowKit Go.Proofs.YtkhgeonlohafgaaGreatDoorW.PrintWords Go.Proofs.YtkhgeonlohafgaaGreatDoorW.PrintLast Go.Proofs.YtkhgeonlohafgaaGreatDoorW.PrintMore
attribute [local go_sem] max2_int min2_int max_two min_two max_three min_three max_four min_four   -- for this text's walks alone
set_option linter.unusedVariables false
set_option linter.unusedSimpArgs false
def gronx_Segments.j0 : Nat → List ByteArray → Int → Bool → Option (List ByteArray × Option Int)
  | 0, _, _, _ => none
  | k + 1, x4, x5, x16 => if x16 = true then ((errors_New.f (⟨#[101, 120, 112, 114, 32, 115, 104, 111, 117, 108, 100, 32, 99, 111, 110, 116, 97, 105, 110, 32, 53, 45, 55, 32, 115, 101, 103, 109, 101, 110, 116, 115, 32, 115, 101, 112, 97, 114, 97, 116, 101, 100, 32, 98, 121, 32, 115, 112, 97, 99, 101]⟩ : ByteArray)).bind fun t245 => (some ((([] : List ByteArray)), t245))) else (if x5 = 5 then ((some (([(⟨#[48]⟩ : ByteArray)] : List ByteArray) : List ByteArray)).bind fun y246 => (if y246.length + x4.length < 8796093022208 then (some ((y246 ++ x4), none)) else (none))) else (if x5 = 6 then (if 5 < (x4.length : Int) then ((gronx_zzHasYear.f k (rdOf ByteArray.empty x4 5)).bind fun t253 => (if t253 = true then ((some (([(⟨#[48]⟩ : ByteArray)] : List ByteArray) : List ByteArray)).bind fun y254 => (if y254.length + x4.length < 8796093022208 then (some ((y254 ++ x4), none)) else (none))) else (some (x4, none)))) else (none)) else (some (x4, none))))
def gronx_Segments.f (k : Nat) (a0 : ByteArray) : Option (List ByteArray × Option Int) := (gronx_normalize.f k a0).bind fun t239 => (if (t239.length : Int) < 5 then (gronx_Segments.j0 k t239 (t239.length : Int) true) else (gronx_Segments.j0 k t239 (t239.length : Int) (decide ((t239.length : Int) > 7))))
theorem gronx_Segments.mono_l : ∀ k, (∀ y0 y1 y2, LeO (gronx_Segments.j0 k y0 y1 y2) (gronx_Segments.j0 (k + 1) y0 y1 y2))
  | 0 => fun _ _ _ r h => by simp [gronx_Segments.j0] at h
  | k + 1 => by
    have ih0 := gronx_Segments.mono_l k
    · intro y0 y1 y2
      unfold gronx_Segments.j0
      repeat' first
      | (with_reducible exact ih0 _ _ _)
      | (with_reducible exact gronx_normalize.mono _ _)
      | (with_reducible exact gronx_zzHasYear.mono _ _)
      | (with_reducible exact LeO.refl _)
      | (with_reducible exact LeO.none _)
      | (with_reducible refine LeO.ite ?_ ?_)
      | (with_reducible refine LeO.bind ?_ (fun _ => ?_))
      | exact ih0 _ _ _
      | exact gronx_normalize.mono _ _
      | exact gronx_zzHasYear.mono _ _
      | exact LeO.none _
      | refine LeO.ite ?_ ?_
      | refine LeO.bind ?_ (fun _ => ?_)
theorem gronx_Segments.mono : ∀ a0 k, LeO (gronx_Segments.f k a0) (gronx_Segments.f (k + 1) a0) := by
  intro a0 k
  have ih0 := gronx_Segments.mono_l k
  unfold gronx_Segments.f
  repeat' first
      | (with_reducible exact ih0 _ _ _)
      | (with_reducible exact gronx_normalize.mono _ _)
      | (with_reducible exact gronx_zzHasYear.mono _ _)
      | (with_reducible exact LeO.refl _)
      | (with_reducible exact LeO.none _)
      | (with_reducible refine LeO.ite ?_ ?_)
      | (with_reducible refine LeO.bind ?_ (fun _ => ?_))
      | exact ih0 _ _ _
      | exact gronx_normalize.mono _ _
      | exact gronx_zzHasYear.mono _ _
      | exact LeO.none _
      | refine LeO.ite ?_ ?_
      | refine LeO.bind ?_ (fun _ => ?_)
set_option maxHeartbeats 8000000 in
set_option maxRecDepth 100000 in
theorem gronx_Segments.calls (k : Nat) (a0 : ByteArray) (r1 : List ByteArray) (r2 : Option Int) (w : World) (h : gronx_Segments.f k a0 = some (r1, r2)) :
    Calls Tryz.prog 36 #[.string a0] w fun e w' => ∃ v0_ : Value, e = .returned (.tuple #[v0_, errW r2]) ∧ Kd.R Kd.string 9 w' w.heap.size (fun _ => True) v0_ r1 ∧ Below w.heap.size w w' := by
  have HB := Aside0.mk (Below.refl w.heap.size w)
  have H : ((gronx_normalize.f k a0).bind fun t239 => (if (t239.length : Int) < 5 then (gronx_Segments.j0 k t239 (t239.length : Int) true) else (gronx_Segments.j0 k t239 (t239.length : Int) (decide ((t239.length : Int) > 7))))) = some (r1, r2) := h
  clear h
  replace H := Option.bind_eq_some_iff.mp H
  obtain ⟨t239, A20, H⟩ := H
  replace H : (if (t239.length : Int) < 5 then (gronx_Segments.j0 k t239 (t239.length : Int) true) else (gronx_Segments.j0 k t239 (t239.length : Int) (decide ((t239.length : Int) > 7)))) = some (r1, r2) := H
  have A2 := Aside0.mk A20
  clear A20
  have HC3 := Aside0.mk H
  clear H
  go_enter Tryz.func36, Tryz.ntmps36
  go_upto_region 3 with (first | ((with_reducible refine gate_callee (f := 50) rfl ?_); refine goesL_ (some 8) rfl rfl Tryz.func50 (by kernel_rfl) rfl #[.string a0] rfl (by (try simp only [List.map_toArray, List.map_cons, List.map_nil]); first | done | rfl | (simp only [List.length_drop, List.length_take]; rfl)) ?_; (with_reducible refine (gronx_normalize.calls k a0 t239 _ A2.out).mono ?_); rintro e w4 ⟨v240, rfl, ho0, hb⟩; refine ⟨_, rfl, ?_⟩; have n0_ := Aside0.mk (Kd.R_lower ho0 (below_size (by repeat (first | (with_reducible first | exact HB.out | apply below_alloc | apply pw_below_drewN | apply below_drew1) | exact HB.out)))); have n1_ := Aside0.mk (below_step (by repeat (first | (with_reducible first | exact HB.out | apply below_alloc | apply pw_below_drewN | apply below_drew1) | exact HB.out)) hb); clear HB; have HO241 := n0_; have HB := n1_; clear n0_ n1_; (try clear hb); (try clear hb2); (try clear hk); (try clear hi); (try clear ho0); obtain ⟨Ao5, co5, eo5⟩ := Kd.R_slice HO241.out; subst eo5))
  (try simp only [Act.put, List.setIfInBounds_toArray, List.set_cons_zero, List.set_cons_succ])
  go_cut [16] (fun v16 wc => ∃ (kq : Nat) (x16_2 : Bool), v16 = .bool x16_2 ∧ Aside0 (gronx_Segments.j0 kq t239 (t239.length : Int) x16_2 = some (r1, r2)) ∧ Aside0 (kq ≤ k) ∧ Aside0 (Kd.R Kd.string 9 wc w.heap.size (fun _ => True) (.slice Ao5 t239.length co5) t239) ∧ Aside0 (Below w.heap.size w wc))
  case first =>
    have H := HC3.out
    clear HC3
    by_cases c6 : (t239.length : Int) < 5
    · rw [if_pos c6] at H
      have c6b0 : decide ((t239.length : Int) < 5) = true := decide_eq_true c6
      have c6b1 : decide (t239.length < 5) = true := decide_eq_true (by omega)
      clear c6
      (first | rw [c6b0] | (simp only [i64_w, i32_w]; rw [c6b0]) | skip)
      have H' := Aside0.mk H
      clear H
      go_wp2
      go_meet
      case rel => exact ⟨_, (true), (by first | rfl | (simp; done) | (simp [*]; done)), H', ⟨by first | omega | exact Nat.le_refl _⟩, ⟨by (with_reducible repeat (first | apply Kd.R_alloc | apply Kd.R_drewN | apply Kd.R_drew)); exact HO241.out⟩, ⟨by repeat (first | (with_reducible first | exact HB.out | apply below_alloc | apply pw_below_drewN | apply below_drew1) | exact HB.out)⟩⟩
    · rw [if_neg c6] at H
      have c6b0 : decide ((t239.length : Int) < 5) = false := decide_eq_false c6
      have c6b1 : decide (t239.length < 5) = false := decide_eq_false (by omega)
      clear c6
      (first | rw [c6b0] | (simp only [i64_w, i32_w]; rw [c6b0]) | skip)
      have H' := Aside0.mk H
      clear H
      go_wp2
      go_meet
      case rel => exact ⟨_, (decide ((t239.length : Int) > 7)), (by first | rfl | (simp; done) | (simp [*]; done)), H', ⟨by first | omega | exact Nat.le_refl _⟩, ⟨by (with_reducible repeat (first | apply Kd.R_alloc | apply Kd.R_drewN | apply Kd.R_drew)); exact HO241.out⟩, ⟨by repeat (first | (with_reducible first | exact HB.out | apply below_alloc | apply pw_below_drewN | apply below_drew1) | exact HB.out)⟩⟩
  case rest =>
    clear HC3
    try clear p2
    try clear c3
    try clear c5
    try clear c6
    try clear c6b0
    try clear c6b1
    obtain ⟨kq, x16_2, rfl, HA, HJ2, HO_4, HB⟩ := hcut
    cases kq with
    | zero => exact absurd HA.out (by simp [gronx_Segments.j0])
    | succ kj2 =>
      have H := HA.out
      clear HA
      simp only [gronx_Segments.j0] at H
      by_cases c7 : x16_2 = true
      · subst c7
        have H1 : ((errors_New.f (⟨#[101, 120, 112, 114, 32, 115, 104, 111, 117, 108, 100, 32, 99, 111, 110, 116, 97, 105, 110, 32, 53, 45, 55, 32, 115, 101, 103, 109, 101, 110, 116, 115, 32, 115, 101, 112, 97, 114, 97, 116, 101, 100, 32, 98, 121, 32, 115, 112, 97, 99, 101]⟩ : ByteArray)).bind fun t245 => (some ((([] : List ByteArray)), t245))) = some (r1, r2) := by rw [if_pos rfl] at H; exact H
        clear H
        have H := H1
        clear H1
        obtain ⟨y242, hy242⟩ : ∃ y_ : List ByteArray, y_ = (([] : List ByteArray)) := ⟨_, rfl⟩
        replace H : ((errors_New.f (⟨#[101, 120, 112, 114, 32, 115, 104, 111, 117, 108, 100, 32, 99, 111, 110, 116, 97, 105, 110, 32, 53, 45, 55, 32, 115, 101, 103, 109, 101, 110, 116, 115, 32, 115, 101, 112, 97, 114, 97, 116, 101, 100, 32, 98, 121, 32, 115, 112, 97, 99, 101]⟩ : ByteArray)).bind fun t245 => (some (y242, t245))) = some (r1, r2) := by first | (rw [hy242]; with_reducible exact H) | (have H2_ := (Option.bind_some _ _).symm.trans H; rw [hy242]; with_reducible exact H2_) | (have H2_ := (Option.bind_some _ _).symm.trans H; with_reducible exact H2_) | with_reducible exact H | (rw [hy242]; exact H) | exact H
        have Ny242 := Aside0.mk hy242
        clear hy242
        replace H := Option.bind_eq_some_iff.mp H
        obtain ⟨t245, A80, H⟩ := H
        replace H : (some (y242, t245)) = some (r1, r2) := H
        have A8 := Aside0.mk A80
        clear A80
        simp only [Option.some.injEq, Prod.mk.injEq] at H
        obtain ⟨rfl, rfl⟩ := H
        go_wp2_with (first | ((with_reducible refine gate_dst (N := 17) rfl ?_); refine Kd.R_lit Kd.string _ 9 ?hg (N := 17) ?hd (xs := ([] : List ByteArray)) (inner := []) (ok := fun _ => True) (okp := fun _ => True) ?hr ?hp (fun _ hk => hk) trivial (Below.refl _ _) (Nat.le_refl _) (by simp) ?_; (case hd => rfl); (case hg => rfl); (case hr => first | (go_simp; done) | (go_simp; rfl)); (case hp => exact (Reps.none _ _)); intro v243 w9 ho10 hb hg_ hnew_; clear hg_ hnew_; (first | rw [← Ny242.out] at ho10 | (simp only [Int.reduceToNat] at ho10; rw [← Ny242.out] at ho10)); have n0_ := Aside0.mk (Kd.R_elder' (by (with_reducible repeat (first | apply Kd.R_alloc | apply Kd.R_drewN | apply Kd.R_drew)); exact HO_4.out) (Kd.R_base ho10) hb); have n1_ := Aside0.mk (Kd.R_lower (Kd.R_new' ho10 (Kd.R_lt (by (with_reducible repeat (first | apply Kd.R_alloc | apply Kd.R_drewN | apply Kd.R_drew)); exact HO_4.out))) (below_size (by repeat (first | (with_reducible first | exact HB.out | apply below_alloc | apply pw_below_drewN | apply below_drew1) | exact HB.out)))); have n2_ := Aside0.mk (below_step (by repeat (first | (with_reducible first | exact HB.out | apply below_alloc | apply pw_below_drewN | apply below_drew1) | exact HB.out)) hb); clear HO_4; clear HB; have HO_4 := n0_; have HO244 := n1_; have HB := n2_; clear n0_ n1_ n2_; clear hb ho10) | ((with_reducible refine gate_callee (f := 51) rfl ?_); refine goesL_ (some 18) rfl rfl Tryz.func51 (by kernel_rfl) rfl #[.string (⟨#[101, 120, 112, 114, 32, 115, 104, 111, 117, 108, 100, 32, 99, 111, 110, 116, 97, 105, 110, 32, 53, 45, 55, 32, 115, 101, 103, 109, 101, 110, 116, 115, 32, 115, 101, 112, 97, 114, 97, 116, 101, 100, 32, 98, 121, 32, 115, 112, 97, 99, 101]⟩ : ByteArray)] rfl (by (try simp only [List.map_toArray, List.map_cons, List.map_nil]); first | done | rfl | (simp only [List.length_drop, List.length_take]; rfl)) ?_; (with_reducible refine (errors_New.calls (⟨#[101, 120, 112, 114, 32, 115, 104, 111, 117, 108, 100, 32, 99, 111, 110, 116, 97, 105, 110, 32, 53, 45, 55, 32, 115, 101, 103, 109, 101, 110, 116, 115, 32, 115, 101, 112, 97, 114, 97, 116, 101, 100, 32, 98, 121, 32, 115, 112, 97, 99, 101]⟩ : ByteArray) t245 _ A8.out).mono ?_); rintro e w11 ⟨rfl, hb⟩; refine ⟨_, rfl, ?_⟩; have n0_ := Aside0.mk (Kd.R_below (by (with_reducible repeat (first | apply Kd.R_alloc | apply Kd.R_drewN | apply Kd.R_drew)); exact HO_4.out) hb); have n1_ := Aside0.mk (Kd.R_below (by (with_reducible repeat (first | apply Kd.R_alloc | apply Kd.R_drewN | apply Kd.R_drew)); exact HO244.out) hb); have n2_ := Aside0.mk (below_step (by repeat (first | (with_reducible first | exact HB.out | apply below_alloc | apply pw_below_drewN | apply below_drew1) | exact HB.out)) hb); clear HO_4; clear HO244; clear HB; have HO_4 := n0_; have HO244 := n1_; have HB := n2_; clear n0_ n1_ n2_; (try clear hb); (try clear hb2); (try clear hk); (try clear hi); (try simp only [errW_none, errW_some])))
        go_ret2
        exact ⟨_, by first | rfl | (simp [errW_none, errW_some] <;> rfl) | (simp [*, errW_none, errW_some] <;> rfl), by (with_reducible repeat (first | apply Kd.R_alloc | apply Kd.R_drewN | apply Kd.R_drew)); exact Kd.R_mono HO244.out (fun _ hk => trivial), by repeat (first | (with_reducible first | exact HB.out | apply below_alloc | apply pw_below_drewN | apply below_drew1) | exact HB.out)⟩
      · replace c7 := Bool.eq_false_iff.mpr c7
        subst c7
        have H1 : (if (t239.length : Int) = 5 then ((some (([(⟨#[48]⟩ : ByteArray)] : List ByteArray) : List ByteArray)).bind fun y246 => (if y246.length + t239.length < 8796093022208 then (some ((y246 ++ t239), none)) else (none))) else (if (t239.length : Int) = 6 then (if 5 < (t239.length : Int) then ((gronx_zzHasYear.f kj2 (rdOf ByteArray.empty t239 5)).bind fun t253 => (if t253 = true then ((some (([(⟨#[48]⟩ : ByteArray)] : List ByteArray) : List ByteArray)).bind fun y254 => (if y254.length + t239.length < 8796093022208 then (some ((y254 ++ t239), none)) else (none))) else (some (t239, none)))) else (none)) else (some (t239, none)))) = some (r1, r2) := by rw [if_neg (show ¬ (false = true) by decide)] at H; exact H
        clear H
        have H := H1
        clear H1
        by_cases c12 : (t239.length : Int) = 5
        · rw [if_pos c12] at H
          have c12b0 : ((t239.length : Int) == 5) = true := beq_iff_eq.mpr c12
          have c12b1 : ((t239.length : Int) != 5) = false := bne_eq_false_iff_eq.mpr c12
          clear c12
          obtain ⟨y246, hy246⟩ : ∃ y_ : List ByteArray, y_ = (([(⟨#[48]⟩ : ByteArray)] : List ByteArray)) := ⟨_, rfl⟩
          replace H : (if y246.length + t239.length < 8796093022208 then (some ((y246 ++ t239), none)) else (none)) = some (r1, r2) := by first | (rw [hy246]; with_reducible exact H) | (have H2_ := (Option.bind_some _ _).symm.trans H; rw [hy246]; with_reducible exact H2_) | (have H2_ := (Option.bind_some _ _).symm.trans H; with_reducible exact H2_) | with_reducible exact H | (rw [hy246]; exact H) | exact H
          have Ny246 := Aside0.mk hy246
          clear hy246
          by_cases c13 : y246.length + t239.length < 8796093022208
          · rw [if_pos c13] at H
            have LMc13 := Aside0.mk c13
            clear c13
            obtain ⟨y249, hy249⟩ : ∃ y_ : List ByteArray, y_ = (y246 ++ t239) := ⟨_, rfl⟩
            replace H : (some (y249, none)) = some (r1, r2) := by first | (rw [hy249]; with_reducible exact H) | (have H2_ := (Option.bind_some _ _).symm.trans H; rw [hy249]; with_reducible exact H2_) | (have H2_ := (Option.bind_some _ _).symm.trans H; with_reducible exact H2_) | with_reducible exact H | (rw [hy249]; exact H) | exact H
            have Ny249 := Aside0.mk hy249
            clear hy249
            simp only [Option.some.injEq, Prod.mk.injEq] at H
            obtain ⟨rfl, rfl⟩ := H
            go_wp2_with (first | ((with_reducible refine gate_dst (N := 32) rfl ?_); refine Kd.R_lit Kd.string _ 9 ?hg (N := 32) ?hd (xs := ([(⟨#[48]⟩ : ByteArray)] : List ByteArray)) (inner := [.string (⟨#[48]⟩ : ByteArray)]) (ok := fun _ => True) (okp := fun _ => True) ?hr ?hp (fun _ hk => hk) trivial (Below.refl _ _) (Nat.le_refl _) (by simp) ?_; (case hd => rfl); (case hg => rfl); (case hr => first | (go_simp; done) | (go_simp; rfl)); (case hp => exact (Reps.one (show Kd.M Kd.string _ _ _ (⟨#[48]⟩ : ByteArray) [.string (⟨#[48]⟩ : ByteArray)] from rfl) (Reps.none _ _))); intro v247 w14 ho15 hb hg_ hnew_; clear hg_ hnew_; (first | rw [← Ny246.out] at ho15 | (simp only [Int.reduceToNat] at ho15; rw [← Ny246.out] at ho15)); have n0_ := Aside0.mk (Kd.R_elder' (by (with_reducible repeat (first | apply Kd.R_alloc | apply Kd.R_drewN | apply Kd.R_drew)); exact HO_4.out) (Kd.R_base ho15) hb); have n1_ := Aside0.mk (Kd.R_lower (Kd.R_new' ho15 (Kd.R_lt (by (with_reducible repeat (first | apply Kd.R_alloc | apply Kd.R_drewN | apply Kd.R_drew)); exact HO_4.out))) (below_size (by repeat (first | (with_reducible first | exact HB.out | apply below_alloc | apply pw_below_drewN | apply below_drew1) | exact HB.out)))); have n2_ := Aside0.mk (below_step (by repeat (first | (with_reducible first | exact HB.out | apply below_alloc | apply pw_below_drewN | apply below_drew1) | exact HB.out)) hb); clear HO_4; clear HB; have HO_4 := n0_; have HO248 := n1_; have HB := n2_; clear n0_ n1_ n2_; clear hb ho15) | ((with_reducible refine gate_builtin (b := .append) (xs := #[.tmp 32, .tmp 33]) rfl ?_); at_builtin; refine Kd.R_append_rows Kd.string (w0 := w) w.heap.size rfl (.tmp 32) (.tmp 33) 43 9 (.string ⟨#[]⟩) 16 rfl Tryz.underlying43 info9 rfl (by decide) (by omega) v247 y246 t239 _ _ _ (fun k_ => some k_ ≠ (.slice Ao5 t239.length co5 : Value).ownBlock) (fun _ => False) rfl rfl ?aO ?aR (fun _ _ h => h) (fun _ h => h.elim) ?aF ?aB ?aS ?aL ?_; (case aR => repeat (first | exact (Kd.R_reads' HO_4.out).2.2 | (with_reducible refine Kd.C_alloc ?_ _) | (with_reducible refine Kd.C_drewN ?_ _) | (with_reducible refine Kd.C_drew ?_))); (case aB => exact (by repeat (first | (with_reducible first | exact HB.out | apply below_alloc | apply pw_below_drewN | apply below_drew1) | exact HB.out))); (case aF => exact (fun k_ hk => Kd.fresh' (Kd.R_lt (by (with_reducible repeat (first | apply Kd.R_alloc | apply Kd.R_drewN | apply Kd.R_drew)); exact HO_4.out)) k_ hk)); (case aO => exact (by (with_reducible repeat (first | apply Kd.R_alloc | apply Kd.R_drewN | apply Kd.R_drew)); exact Kd.R_mono HO248.out (fun _ hk => hk.2))); (case aS => exact (below_size (by repeat (first | (with_reducible first | exact HB.out | apply below_alloc | apply pw_below_drewN | apply below_drew1) | exact HB.out)))); (case aL => have := LMc13.out; omega); intro v250 w16 ho hb hg hat; rw [← Ny249.out] at ho; have n0_ := Aside0.mk (Kd.R_after (ok := (fun _ => True)) (by (with_reducible repeat (first | apply Kd.R_alloc | apply Kd.R_drewN | apply Kd.R_drew)); exact HO_4.out) hg hat); have n1_ := Aside0.mk (hb); have n2_ := Aside0.mk (ho); clear HO_4; clear HB; clear HO248; have HO_4 := n0_; have HB := n1_; have HO251 := n2_; clear n0_ n1_ n2_; clear ho hb hg hat))
            go_ret2
            exact ⟨_, by first | rfl | (simp [errW_none, errW_some] <;> rfl) | (simp [*, errW_none, errW_some] <;> rfl), by (with_reducible repeat (first | apply Kd.R_alloc | apply Kd.R_drewN | apply Kd.R_drew)); exact Kd.R_mono HO251.out (fun _ hk => trivial), by repeat (first | (with_reducible first | exact HB.out | apply below_alloc | apply pw_below_drewN | apply below_drew1) | exact HB.out)⟩
          · rw [if_neg c13] at H
            exact absurd H (by simp)
        · rw [if_neg c12] at H
          have c12b0 : ((t239.length : Int) == 5) = false := beq_eq_false_iff_ne.mpr c12
          have c12b1 : ((t239.length : Int) != 5) = true := bne_iff_ne.mpr c12
          by_cases c17 : (t239.length : Int) = 6
          · rw [if_pos c17] at H
            have c17b0 : ((t239.length : Int) == 6) = true := beq_iff_eq.mpr c17
            have c17b1 : ((t239.length : Int) != 6) = false := bne_eq_false_iff_eq.mpr c17
            clear c17
            by_cases c18 : 5 < (t239.length : Int)
            · rw [if_pos c18] at H
              have c18b0 : decide (5 < (t239.length : Int)) = true := decide_eq_true c18
              have c18b1 : decide (5 < t239.length) = true := decide_eq_true (by omega)
              clear c18
              replace H := Option.bind_eq_some_iff.mp H
              obtain ⟨t253, A190, H⟩ := H
              replace H : (if t253 = true then ((some (([(⟨#[48]⟩ : ByteArray)] : List ByteArray) : List ByteArray)).bind fun y254 => (if y254.length + t239.length < 8796093022208 then (some ((y254 ++ t239), none)) else (none))) else (some (t239, none))) = some (r1, r2) := H
              have A19 := Aside0.mk A190
              clear A190
              by_cases c20 : t253 = true
              · subst c20
                have H1 : ((some (([(⟨#[48]⟩ : ByteArray)] : List ByteArray) : List ByteArray)).bind fun y254 => (if y254.length + t239.length < 8796093022208 then (some ((y254 ++ t239), none)) else (none))) = some (r1, r2) := by rw [if_pos rfl] at H; exact H
                clear H
                have H := H1
                clear H1
                obtain ⟨y254, hy254⟩ : ∃ y_ : List ByteArray, y_ = (([(⟨#[48]⟩ : ByteArray)] : List ByteArray)) := ⟨_, rfl⟩
                replace H : (if y254.length + t239.length < 8796093022208 then (some ((y254 ++ t239), none)) else (none)) = some (r1, r2) := by first | (rw [hy254]; with_reducible exact H) | (have H2_ := (Option.bind_some _ _).symm.trans H; rw [hy254]; with_reducible exact H2_) | (have H2_ := (Option.bind_some _ _).symm.trans H; with_reducible exact H2_) | with_reducible exact H | (rw [hy254]; exact H) | exact H
                have Ny254 := Aside0.mk hy254
                clear hy254
                by_cases c21 : y254.length + t239.length < 8796093022208
                · rw [if_pos c21] at H
                  have LMc21 := Aside0.mk c21
                  clear c21
                  obtain ⟨y257, hy257⟩ : ∃ y_ : List ByteArray, y_ = (y254 ++ t239) := ⟨_, rfl⟩
                  replace H : (some (y257, none)) = some (r1, r2) := by first | (rw [hy257]; with_reducible exact H) | (have H2_ := (Option.bind_some _ _).symm.trans H; rw [hy257]; with_reducible exact H2_) | (have H2_ := (Option.bind_some _ _).symm.trans H; with_reducible exact H2_) | with_reducible exact H | (rw [hy257]; exact H) | exact H
                  have Ny257 := Aside0.mk hy257
                  clear hy257
                  simp only [Option.some.injEq, Prod.mk.injEq] at H
                  obtain ⟨rfl, rfl⟩ := H
                  have p252 : 0 ≤ (5 : Int) := (by omega)
                  have q252 : 5 < (t239.length : Int) := of_decide_eq_true (by first | (with_reducible assumption) | assumption)
                  obtain ⟨ad252, e252, hx252_0⟩ := Kd.at_string (Kd.R_reads' HO_4.out).2.2 5 p252 q252
                  cases e252
                  (try simp only [show (5 : Int).toNat = 5 from rfl, Nat.reduceMul, Nat.reduceEqDiff, Go.Addr.add, ↓reduceIte] at hx252_0)
                  have qi252 : (5 < t239.length) = True := eq_true (by omega)
                  (try rw [show ((5 : Int)).toNat = 5 from rfl] at hx252_0)
                  replace p252 := eq_true p252
                  replace q252 := eq_true q252
                  go_wp2_with (first | (go_at_call 52; (with_reducible refine (gronx_zzHasYear.calls kj2 (rdOf ByteArray.empty t239 5) true _ A19.out).mono ?_); rintro e w' ⟨rfl, ⟨nd, rfl⟩⟩) | ((with_reducible refine gate_dst (N := 32) rfl ?_); refine Kd.R_lit Kd.string _ 9 ?hg (N := 32) ?hd (xs := ([(⟨#[48]⟩ : ByteArray)] : List ByteArray)) (inner := [.string (⟨#[48]⟩ : ByteArray)]) (ok := fun _ => True) (okp := fun _ => True) ?hr ?hp (fun _ hk => hk) trivial (Below.refl _ _) (Nat.le_refl _) (by simp) ?_; (case hd => rfl); (case hg => rfl); (case hr => first | (go_simp; done) | (go_simp; rfl)); (case hp => exact (Reps.one (show Kd.M Kd.string _ _ _ (⟨#[48]⟩ : ByteArray) [.string (⟨#[48]⟩ : ByteArray)] from rfl) (Reps.none _ _))); intro v255 w22 ho23 hb hg_ hnew_; clear hg_ hnew_; (first | rw [← Ny254.out] at ho23 | (simp only [Int.reduceToNat] at ho23; rw [← Ny254.out] at ho23)); have n0_ := Aside0.mk (Kd.R_elder' (by (with_reducible repeat (first | apply Kd.R_alloc | apply Kd.R_drewN | apply Kd.R_drew)); exact HO_4.out) (Kd.R_base ho23) hb); have n1_ := Aside0.mk (Kd.R_lower (Kd.R_new' ho23 (Kd.R_lt (by (with_reducible repeat (first | apply Kd.R_alloc | apply Kd.R_drewN | apply Kd.R_drew)); exact HO_4.out))) (below_size (by repeat (first | (with_reducible first | exact HB.out | apply below_alloc | apply pw_below_drewN | apply below_drew1) | exact HB.out)))); have n2_ := Aside0.mk (below_step (by repeat (first | (with_reducible first | exact HB.out | apply below_alloc | apply pw_below_drewN | apply below_drew1) | exact HB.out)) hb); clear HO_4; clear HB; have HO_4 := n0_; have HO256 := n1_; have HB := n2_; clear n0_ n1_ n2_; clear hb ho23) | ((with_reducible refine gate_builtin (b := .append) (xs := #[.tmp 32, .tmp 33]) rfl ?_); at_builtin; refine Kd.R_append_rows Kd.string (w0 := w) w.heap.size rfl (.tmp 32) (.tmp 33) 43 9 (.string ⟨#[]⟩) 16 rfl Tryz.underlying43 info9 rfl (by decide) (by omega) v255 y254 t239 _ _ _ (fun k_ => some k_ ≠ (.slice (some ad252) t239.length co5 : Value).ownBlock) (fun _ => False) rfl rfl ?aO ?aR (fun _ _ h => h) (fun _ h => h.elim) ?aF ?aB ?aS ?aL ?_; (case aR => repeat (first | exact (Kd.R_reads' HO_4.out).2.2 | (with_reducible refine Kd.C_alloc ?_ _) | (with_reducible refine Kd.C_drewN ?_ _) | (with_reducible refine Kd.C_drew ?_))); (case aB => exact (by repeat (first | (with_reducible first | exact HB.out | apply below_alloc | apply pw_below_drewN | apply below_drew1) | exact HB.out))); (case aF => exact (fun k_ hk => Kd.fresh' (Kd.R_lt (by (with_reducible repeat (first | apply Kd.R_alloc | apply Kd.R_drewN | apply Kd.R_drew)); exact HO_4.out)) k_ hk)); (case aO => exact (by (with_reducible repeat (first | apply Kd.R_alloc | apply Kd.R_drewN | apply Kd.R_drew)); exact Kd.R_mono HO256.out (fun _ hk => hk.2))); (case aS => exact (below_size (by repeat (first | (with_reducible first | exact HB.out | apply below_alloc | apply pw_below_drewN | apply below_drew1) | exact HB.out)))); (case aL => have := LMc21.out; omega); intro v258 w24 ho hb hg hat; rw [← Ny257.out] at ho; have n0_ := Aside0.mk (Kd.R_after (ok := (fun _ => True)) (by (with_reducible repeat (first | apply Kd.R_alloc | apply Kd.R_drewN | apply Kd.R_drew)); exact HO_4.out) hg hat); have n1_ := Aside0.mk (hb); have n2_ := Aside0.mk (ho); clear HO_4; clear HB; clear HO256; have HO_4 := n0_; have HB := n1_; have HO259 := n2_; clear n0_ n1_ n2_; clear ho hb hg hat))
                  go_ret2
                  exact ⟨_, by first | rfl | (simp [errW_none, errW_some] <;> rfl) | (simp [*, errW_none, errW_some] <;> rfl), by (with_reducible repeat (first | apply Kd.R_alloc | apply Kd.R_drewN | apply Kd.R_drew)); exact Kd.R_mono HO259.out (fun _ hk => trivial), by repeat (first | (with_reducible first | exact HB.out | apply below_alloc | apply pw_below_drewN | apply below_drew1) | exact HB.out)⟩
                · rw [if_neg c21] at H
                  exact absurd H (by simp)
              · replace c20 := Bool.eq_false_iff.mpr c20
                subst c20
                have H1 : (some (t239, none)) = some (r1, r2) := by rw [if_neg (show ¬ (false = true) by decide)] at H; exact H
                clear H
                have H := H1
                clear H1
                simp only [Option.some.injEq, Prod.mk.injEq] at H
                obtain ⟨rfl, rfl⟩ := H
                have p252 : 0 ≤ (5 : Int) := (by omega)
                have q252 : 5 < (t239.length : Int) := of_decide_eq_true (by first | (with_reducible assumption) | assumption)
                obtain ⟨ad252, e252, hx252_0⟩ := Kd.at_string (Kd.R_reads' HO_4.out).2.2 5 p252 q252
                cases e252
                (try simp only [show (5 : Int).toNat = 5 from rfl, Nat.reduceMul, Nat.reduceEqDiff, Go.Addr.add, ↓reduceIte] at hx252_0)
                have qi252 : (5 < t239.length) = True := eq_true (by omega)
                (try rw [show ((5 : Int)).toNat = 5 from rfl] at hx252_0)
                replace p252 := eq_true p252
                replace q252 := eq_true q252
                go_wp2_with (first | (go_at_call 52; (with_reducible refine (gronx_zzHasYear.calls kj2 (rdOf ByteArray.empty t239 5) false _ A19.out).mono ?_); rintro e w' ⟨rfl, ⟨nd, rfl⟩⟩))
                go_ret2
                exact ⟨_, by first | rfl | (simp [errW_none, errW_some] <;> rfl) | (simp [*, errW_none, errW_some] <;> rfl), by (with_reducible repeat (first | apply Kd.R_alloc | apply Kd.R_drewN | apply Kd.R_drew)); exact HO_4.out, by repeat (first | (with_reducible first | exact HB.out | apply below_alloc | apply pw_below_drewN | apply below_drew1) | exact HB.out)⟩
            · rw [if_neg c18] at H
              exact absurd H (by simp)
          · rw [if_neg c17] at H
            have c17b0 : ((t239.length : Int) == 6) = false := beq_eq_false_iff_ne.mpr c17
            have c17b1 : ((t239.length : Int) != 6) = true := bne_iff_ne.mpr c17
            simp only [Option.some.injEq, Prod.mk.injEq] at H
            obtain ⟨rfl, rfl⟩ := H
            go_wp2
            go_ret2
            exact ⟨_, by first | rfl | (simp [errW_none, errW_some] <;> rfl) | (simp [*, errW_none, errW_some] <;> rfl), by (with_reducible repeat (first | apply Kd.R_alloc | apply Kd.R_drewN | apply Kd.R_drew)); exact HO_4.out, by repeat (first | (with_reducible first | exact HB.out | apply below_alloc | apply pw_below_drewN | apply below_drew1) | exact HB.out)⟩
end Go.Proofs.YtkhgeonlohafgaaGreatDoor.Core
namespace Go.Proofs.YtkhgeonlohafgaaGreatDoor.Core
open Go.RowKit Go.Proofs.YtkhgeonlohafgaaGreatDoorW.PrintWords Go.Proofs.YtkhgeonlohafgaaGreatDoorW.PrintLast Go.Proofs.YtkhgeonlohafgaaGreatDoorW.PrintMore
attribute [local go_sem] max2_int min2_int max_two min_two max_three min_three max_four min_four   -- for this text's walks alone
set_option linter.unusedVariables false
set_option linter.unusedSimpArgs false
end Go.Proofs.YtkhgeonlohafgaaGreatDoor.Core
namespace Go.Proofs.YtkhgeonlohafgaaGreatDoor.Core
open Go.RowKit Go.Proofs.YtkhgeonlohafgaaGreatDoorW.PrintWords Go.Proofs.YtkhgeonlohafgaaGreatDoorW.PrintLast Go.Proofs.YtkhgeonlohafgaaGreatDoorW.PrintMore
attribute [local go_sem] max2_int min2_int max_two min_two max_three min_three max_four min_four   -- for this text's walks alone
set_option linter.unusedVariables false
set_option linter.unusedSimpArgs false
end Go.Proofs.YtkhgeonlohafgaaGreatDoor.Core
namespace Go.Proofs.YtkhgeonlohafgaaGreatDoor.Core
open Go.RowKit Go.Proofs.YtkhgeonlohafgaaGreatDoorW.PrintWords Go.Proofs.YtkhgeonlohafgaaGreatDoorW.PrintLast Go.Proofs.YtkhgeonlohafgaaGreatDoorW.PrintMore
attribute [local go_sem] max2_int min2_int max_two min_two max_three min_three max_four min_four   -- for this text's walks alone
set_option linter.unusedVariables false
set_option linter.unusedSimpArgs false
end Go.Proofs.YtkhgeonlohafgaaGreatDoor.Core
namespace Go.Proofs.YtkhgeonlohafgaaGreatDoor.Core
open Go.RowKit Go.Proofs.YtkhgeonlohafgaaGreatDoorW.PrintWords Go.Proofs.YtkhgeonlohafgaaGreatDoorW.PrintLast Go.Proofs.YtkhgeonlohafgaaGreatDoorW.PrintMore
attribute [local go_sem] max2_int min2_int max_two min_two max_three min_three max_four min_four   -- for this text's walks alone
set_option linter.unusedVariables false
set_option linter.unusedSimpArgs false
end Go.Proofs.YtkhgeonlohafgaaGreatDoor.Core
namespace Go.Proofs.YtkhgeonlohafgaaGreatDoor.Core
open Go.RowKit Go.Proofs.YtkhgeonlohafgaaGreatDoorW.PrintWords Go.Proofs.YtkhgeonlohafgaaGreatDoorW.PrintLast Go.Proofs.YtkhgeonlohafgaaGreatDoorW.PrintMore
attribute [local go_sem] max2_int min2_int max_two min_two max_three min_three max_four min_four   -- for this text's walks alone
set_option linter.unusedVariables false
set_option linter.unusedSimpArgs false
end Go.Proofs.YtkhgeonlohafgaaGreatDoor.Core
namespace Go.Proofs.YtkhgeonlohafgaaGreatDoor.Core
open Go.RowKit Go.Proofs.YtkhgeonlohafgaaGreatDoorW.PrintWords Go.Proofs.YtkhgeonlohafgaaGreatDoorW.PrintLast Go.Proofs.YtkhgeonlohafgaaGreatDoorW.PrintMore
attribute [local go_sem] max2_int min2_int max_two min_two max_three min_three max_four min_four   -- for this text's walks alone
set_option linter.unusedVariables false
set_option linter.unusedSimpArgs false
end Go.Proofs.YtkhgeonlohafgaaGreatDoor.Core
namespace Go.Proofs.YtkhgeonlohafgaaGreatDoor.Core
open Go.RowKit Go.Proofs.YtkhgeonlohafgaaGreatDoorW.PrintWords Go.Proofs.YtkhgeonlohafgaaGreatDoorW.PrintLast Go.Proofs.YtkhgeonlohafgaaGreatDoorW.PrintMore
attribute [local go_sem] max2_int min2_int max_two min_two max_three min_three max_four min_four   -- for this text's walks alone
set_option linter.unusedVariables false
set_option linter.unusedSimpArgs false
end Go.Proofs.YtkhgeonlohafgaaGreatDoor.Core
namespace Go.Proofs.YtkhgeonlohafgaaGreatDoor.Core
open Go.RowKit Go.Proofs.YtkhgeonlohafgaaGreatDoorW.PrintWords
abbrev It := S57
section
variable (f0 f1 f2 f3 f4 f5 : List It) (secs : Bool)
end
end Go.Proofs.YtkhgeonlohafgaaGreatDoor.Core
namespace Go.Proofs.YtkhgeonlohafgaaGreatDoor.Core
open Go.RowKit Go.Proofs.YtkhgeonlohafgaaGreatDoorW.PrintWords
def digits10 : List UInt8 := [48, 49, 50, 51, 52, 53, 54, 55, 56, 57]
theorem digit_cut (n : Nat) (h : n < 10) : (B digits10).extract n (n + 1) = B [UInt8.ofNat (48 + n)] := by
  rw [B_cut]
  have : ∀ n, n < 10 → (digits10.drop n).take (n + 1 - n) = [UInt8.ofNat (48 + n)] := by decide
  rw [this n h]
theorem decimal_ev (m : Nat) : ∀ n : Nat, n < 10 ^ (m + 1) → m < 17 → Ev (fun k => spec_Decimal.f k (n : Int)) (B (decN n)) := by
  have base : ∀ n : Nat, n < 10 → Ev (fun k => spec_Decimal.f k (n : Int)) (B (decN n)) := by
    intro n h
    refine Ev.done fun k => ?_
    simp only [spec_Decimal.f]
    rw [if_pos (by omega), if_pos (by omega), wrap64_id (by omega) (by omega), if_pos (by omega), if_pos (by omega), decN_lt n h]
    have := digit_cut n h
    rw [show ((n : Int)).toNat = n by omega, show ((n : Int) + 1).toNat = n + 1 by omega]
    exact congrArg some this
  induction m with
  | zero => intro n h _; exact base n (by simpa using h)
  | succ m ih =>
    intro n h hm
    by_cases h10 : n < 10
    · exact base n h10
    · have hq : n / 10 < 10 ^ (m + 1) := by rw [Nat.div_lt_iff_lt_mul (by omega)]; rw [Nat.pow_succ] at h; exact h
      have hn : n < 10 ^ 18 := Nat.lt_of_lt_of_le h (Nat.pow_le_pow_right (by omega) (by omega))
      have hn' : n < 1000000000000000000 := by simpa using hn
      have e1 : wrap64 (Int.tdiv (n : Int) 10) = ((n / 10 : Nat) : Int) := by
        rw [Int.tdiv_eq_ediv_of_nonneg (by omega), wrap64_id (by omega) (by omega)]; rfl
      have e2 : Int.tmod (n : Int) 10 = ((n % 10 : Nat) : Int) := by rw [Int.tmod_eq_emod_of_nonneg (by omega)]; rfl
      have l1 := decN_length (n / 10) m hq
      refine Ev.step (f := fun k => (spec_Decimal.f k ((n / 10 : Nat) : Int)).bind fun t => (spec_Decimal.f k ((n % 10 : Nat) : Int)).bind fun u => if t.size + u.size ≤ 9223372036854775807 then some (t ++ u) else none) (fun k => ?_) (Ev.bind (ih (n / 10) hq (by omega)) (Ev.bind (base (n % 10) (by omega)) (Ev.const ?_)))
      · simp only [spec_Decimal.f]
        rw [if_neg (by omega), e1, e2]
      · rw [B_size, B_size, decN_lt (n % 10) (by omega), if_pos (by simp; omega), B_app, decN_ge n h10]
theorem dec_ev (n : Int) (h0 : 0 ≤ n) (h : n < 100000) : Ev (fun k => spec_Decimal.f k n) (B (decN n.toNat)) := by
  have := decimal_ev 4 n.toNat (by simp; omega) (by omega)
  rwa [show ((n.toNat : Nat) : Int) = n by omega] at this
def joinL (c : UInt8) : List (List UInt8) → List UInt8
  | [] => []
  | [x] => x
  | x :: y :: t => x ++ c :: joinL c (y :: t)
theorem joinL_length (c : UInt8) (l : List (List UInt8)) (m : Nat) (h : ∀ x ∈ l, x.length ≤ m) : (joinL c l).length ≤ l.length * (m + 1) := by
  induction l with
  | nil => simp [joinL]
  | cons a t ih =>
    have ha := h a (by simp)
    cases t with
    | nil => simp [joinL]; omega
    | cons b t =>
      have := ih (fun x hx => h x (by simp [hx]))
      rw [joinL, List.length_append, List.length_cons, List.length_cons, Nat.succ_mul]
      omega
theorem joinL_ne (c : UInt8) (l : List (List UInt8)) (h : l ≠ []) (hx : ∀ x ∈ l, x ≠ []) : joinL c l ≠ [] := by
  match l with
  | [] => exact absurd rfl h
  | [x] => exact hx x (by simp)
  | x :: y :: t => rw [joinL]; simp
end Go.Proofs.YtkhgeonlohafgaaGreatDoor.Core
namespace Go.Proofs.YtkhgeonlohafgaaGreatDoor.Core
open Go.RowKit Go.Proofs.YtkhgeonlohafgaaGreatDoorW.PrintWords
def PartOk (p : List UInt8) : Prop := p ≠ [] ∧ ∀ b ∈ p, 33 ≤ b.toNat ∧ b.toNat ≤ 63
theorem joinL_mem {c : UInt8} {P : List (List UInt8)} {b : UInt8} (h : b ∈ joinL c P) : b = c ∨ ∃ p ∈ P, b ∈ p := by
  induction P with
  | nil => cases h
  | cons x t ih =>
    cases t with
    | nil => exact Or.inr ⟨x, by simp, h⟩
    | cons y t =>
      rw [joinL] at h
      rcases List.mem_append.1 h with h | h
      · exact Or.inr ⟨x, by simp, h⟩
      · rcases List.mem_cons.1 h with h | h
        · exact Or.inl h
        · rcases ih h with h | ⟨p, hp, h⟩
          · exact Or.inl h
          · exact Or.inr ⟨p, by simp [hp], h⟩
theorem splitL_join (c : UInt8) (P : List (List UInt8)) (h : P ≠ []) (hc : ∀ p ∈ P, c ∉ p) : splitL c (joinL c P) = P := by
  induction P with
  | nil => exact absurd rfl h
  | cons x t ih =>
    cases t with
    | nil => exact splitL_none c x (hc x (by simp))
    | cons y t => rw [joinL, splitL_at c x _ (hc x (by simp)), ih (by simp) (fun p hp => hc p (by simp [hp]))]
theorem noDbl_part (p r : List UInt8) (hp : ∀ b ∈ p, b ≠ 32) (hr : noDbl r = true) : noDbl (p ++ r) = true := by
  induction p with
  | nil => exact hr
  | cons a t ih =>
    have ha : (a == 32) = false := by simpa using hp a (by simp)
    have := ih (fun b hb => hp b (by simp [hb]))
    rw [List.cons_append]
    match h : t ++ r with
    | [] => rfl
    | b :: s => rw [h] at this; simp [noDbl, ha, this]
theorem noDbl_join (P : List (List UInt8)) (hP : ∀ p ∈ P, PartOk p) : noDbl (joinL 32 P) = true := by
  have h32 : ∀ p ∈ P, ∀ b ∈ p, b ≠ 32 := by
    intro p hp b hb e
    have := (hP p hp).2 b hb
    rw [e] at this
    simp at this
  induction P with
  | nil => rfl
  | cons x t ih =>
    cases t with
    | nil => have := noDbl_part x [] (h32 x (by simp)) rfl; simpa [joinL] using this
    | cons y t =>
      rw [joinL]
      refine noDbl_part x _ (h32 x (by simp)) ?_
      have hrec := ih (fun p hp => hP p (by simp [hp])) (fun p hp => h32 p (by simp [hp]))
      match h : joinL 32 (y :: t) with
      | [] => rfl
      | b :: s =>
        rw [h] at hrec
        have hb : b ≠ 32 := by
          have hy := hP y (by simp)
          match hyy : y with
          | [] => exact absurd rfl hy.1
          | z :: zs =>
            have : b = z := by
              cases t with
              | nil => rw [joinL] at h; exact (List.cons.inj h).1.symm
              | cons w t => rw [joinL, List.cons_append] at h; exact (List.cons.inj h).1.symm
            rw [this]
            exact h32 (z :: zs) (by simp) z (by simp)
        simp [noDbl, hb, hrec]
theorem getLast_join (c : UInt8) (P : List (List UInt8)) (hne : P ≠ []) (hP : ∀ p ∈ P, p ≠ []) (b : UInt8) (h : (joinL c P).getLast? = some b) : ∃ p ∈ P, b ∈ p := by
  induction P with
  | nil => exact absurd rfl hne
  | cons x t ih =>
    cases t with
    | nil => exact ⟨x, by simp, List.mem_of_getLast? h⟩
    | cons y t =>
      have hy : joinL c (y :: t) ≠ [] := joinL_ne c _ (by simp) (fun p hp => hP p (by simp [hp]))
      rw [joinL, List.getLast?_append, List.getLast?_cons_of_ne_nil hy] at h
      match hl : (joinL c (y :: t)).getLast? with
      | none => exact absurd (List.getLast?_eq_none_iff.1 hl) hy
      | some z =>
        rw [hl, Option.some_or] at h
        obtain ⟨p, hp, hb⟩ := ih (by simp) (fun p hp => hP p (by simp [hp])) (by rw [hl]; exact h)
        exact ⟨p, by simp [hp], hb⟩
theorem head_join (c : UInt8) (P : List (List UInt8)) (hne : P ≠ []) (hP : ∀ p ∈ P, p ≠ []) (b : UInt8) (h : (joinL c P).head? = some b) : ∃ p ∈ P, b ∈ p := by
  match P, hne with
  | [x], _ => exact ⟨x, by simp, List.mem_of_mem_head? h⟩
  | x :: y :: t, _ =>
    match hx : x with
    | [] => exact absurd rfl (hP [] (by simp))
    | z :: zs =>
      rw [joinL, List.cons_append, List.head?_cons] at h
      exact ⟨z :: zs, by simp, by rw [← Option.some.inj h]; simp⟩
theorem normalize_ev (P : List (List UInt8)) (hne : P ≠ []) (hP : ∀ p ∈ P, PartOk p) (hl : (joinL 32 P).length < 8796093022208) : Ev (fun k => gronx_normalize.f k (B (joinL 32 P))) (P.map B) := by
  have hpl : ∀ b ∈ joinL 32 P, plainB b = true := by
    intro b hb
    rcases joinL_mem hb with h | ⟨p, hp, h⟩
    · subst h; rfl
    · have := (hP p hp).2 b h
      unfold plainB
      rw [decide_eq_true this.1, decide_eq_true this.2]
      simp
  have h63 : ∀ b ∈ joinL 32 P, b.toNat ≤ 63 := by
    intro b hb
    rcases joinL_mem hb with h | ⟨p, hp, h⟩
    · subst h; decide
    · exact ((hP p hp).2 b h).2
  have hends : ∀ b, (∃ p ∈ P, b ∈ p) → b ≠ 32 ∧ b ≠ 9 := by
    rintro b ⟨p, hp, h⟩
    have := (hP p hp).2 b h
    constructor <;> (intro e; subst e; simp at this)
  have hd := noDbl_join P hP
  have hjn : joinL 32 P ≠ [] := joinL_ne _ _ hne (fun p hp => (hP p hp).1)
  unfold gronx_normalize.f
  refine Ev.bind (f := fun k t174 => ((strings_ToLower.f t174).bind fun t175 => ((gronx_expression.f t175).bind fun bt176 => (if bt176.2 = true then (gronx_normalize.j0 k bt176.1) else (gronx_normalize.j0 k t174))))) (zzTrim_ev _ (by omega) hjn (fun b hb => hends b (head_join 32 P hne (fun p hp => (hP p hp).1) b hb)) (fun b hb => hends b (getLast_join 32 P hne (fun p hp => (hP p hp).1) b hb))) ?_
  refine Ev.congr (f := fun k => gronx_normalize.j0 k (B (joinL 32 P))) (fun k => ?_) ?_
  · simp only [toLower_plain _ (by omega : (joinL 32 P).length ≤ 140737488355328) h63, Option.bind_some, expression_no _ h63]
    rw [if_neg (by simp)]
  · refine Ev.step (f := fun k => (gronx_zzSpaces.f k (B (joinL 32 P))).bind fun t178 => ((strings_ToUpper.f t178).bind fun t179 => ((gronx_zzLiterals.f k t179).bind fun t180 => ((gronx_zzReplaceAll.f k t180 (⟨#[32, 32]⟩ : ByteArray) (⟨#[32]⟩ : ByteArray)).bind fun t181 => ((gronx_zzSplit.f k t181 (⟨#[32]⟩ : ByteArray)).bind fun t182 => (some t182)))))) (fun k => by simp only [gronx_normalize.j0]) ?_
    refine Ev.bind (zzSpaces_ev _ (by omega) hd hpl) ?_
    refine Ev.congr (f := fun k => (gronx_zzLiterals.f k (B (joinL 32 P))).bind fun t180 => ((gronx_zzReplaceAll.f k t180 (⟨#[32, 32]⟩ : ByteArray) (⟨#[32]⟩ : ByteArray)).bind fun t181 => ((gronx_zzSplit.f k t181 (⟨#[32]⟩ : ByteArray)).bind fun t182 => (some t182)))) (fun k => by rw [toUpper_plain _ (by omega : (joinL 32 P).length ≤ 140737488355328) h63]; rfl) ?_
    refine Ev.bind (zzLiterals_ev _ (by omega) h63) ?_
    refine Ev.bind (f := fun k t181 => ((gronx_zzSplit.f k t181 (⟨#[32]⟩ : ByteArray)).bind fun t182 => (some t182))) (zzReplace_no _ [32, 32] [32] (by simp) (by simp) (noDbl_idx _ hd 0) (by omega)) ?_
    have hs := zzSplit_ev 32 (joinL 32 P) hl
    rw [splitL_join 32 P hne (fun p hp e => by have := (hP p hp).2 32 e; simp at this)] at hs
    exact Ev.bind hs (Ev.const rfl)
theorem segments_ev (P : List (List UInt8)) (hP : ∀ p ∈ P, PartOk p) (hl : (joinL 32 P).length < 8796093022208) (h5 : 5 ≤ P.length) (h7 : P.length ≤ 7) (h5l : ∀ h : P.length = 6, (P[5]'(by omega)).length < 4611686018427387904) :
    Ev (fun k => gronx_Segments.f k (B (joinL 32 P))) (((if P.length = 5 ∨ (∃ h : P.length = 6, hasYr (P[5]'(by omega)) 0 = true) then [48] :: P else P).map B), none) := by
  have hne : P ≠ [] := by intro e; rw [e] at h5; simp at h5
  unfold gronx_Segments.f
  refine Ev.bind (f := fun k t185 => (if (t185.length : Int) < 5 then (gronx_Segments.j0 k t185 (t185.length : Int) true) else (gronx_Segments.j0 k t185 (t185.length : Int) (decide ((t185.length : Int) > 7))))) (normalize_ev P hne hP hl) ?_
  rw [List.length_map]
  refine Ev.congr (f := fun k => gronx_Segments.j0 k (P.map B) (P.length : Int) false) (fun k => ?_) ?_
  · rw [if_neg (by omega), decide_eq_false (by omega)]
  by_cases e5 : P.length = 5
  · rw [if_pos (Or.inl e5)]
    refine Ev.done fun k => ?_
    simp only [gronx_Segments.j0]
    rw [if_neg (by simp), if_pos (by omega)]
    simp only [Option.bind_some]
    rw [if_pos (by simp; omega)]
    rfl
  · by_cases e6 : P.length = 6
    · have hy := zzHasYear_ev (P[5]'(by omega)) (h5l e6)
      have hrd : rdOf ByteArray.empty (P.map B) 5 = B (P[5]'(by omega)) := by simp [rdOf, e6]
      refine Ev.step (f := fun k => (gronx_zzHasYear.f k (B (P[5]'(by omega)))).bind fun t199 => (if t199 = true then ((some (([(⟨#[48]⟩ : ByteArray)] : List ByteArray) : List ByteArray)).bind fun y200 => (if y200.length + (P.map B).length < 8796093022208 then (some ((y200 ++ P.map B), none)) else (none))) else (some (P.map B, none)))) (fun k => ?_) (Ev.bind hy (Ev.const ?_))
      · simp only [gronx_Segments.j0]
        rw [if_neg (by simp), if_neg (by omega), if_pos (by omega), if_pos (by simp; omega), hrd]
      · cases hb : hasYr (P[5]'(by omega)) 0 with
        | true =>
          rw [if_pos rfl, if_pos (Or.inr ⟨e6, hb⟩)]
          simp only [Option.bind_some]
          rw [if_pos (by simp; omega)]
          rfl
        | false =>
          rw [if_neg (by simp), if_neg (by rintro (h | ⟨_, h⟩); omega; rw [hb] at h; cases h)]
    · rw [if_neg (by rintro (h | ⟨h, _⟩) <;> omega)]
      refine Ev.done fun k => ?_
      simp only [gronx_Segments.j0]
      rw [if_neg (by simp), if_neg (by omega), if_neg (by omega)]
def nd (c : UInt8) : Prop := c.toNat < 48 ∨ 57 < c.toNat
theorem decN_part (n : Nat) : ∀ b ∈ decN n, 33 ≤ b.toNat ∧ b.toNat ≤ 63 := fun b hb => by have := decN_digit n b hb; omega
end Go.Proofs.YtkhgeonlohafgaaGreatDoor.Core
namespace Go.Proofs.YtkhgeonlohafgaaGreatDoor.Core
open Go.RowKit Go.Proofs.YtkhgeonlohafgaaGreatDoorW.PrintWords
end Go.Proofs.YtkhgeonlohafgaaGreatDoor.Core
namespace Go.Proofs.YtkhgeonlohafgaaGreatDoor.Core
open Go.RowKit Go.Proofs.YtkhgeonlohafgaaGreatDoorW.PrintWords Go.Proofs.YtkhgeonlohafgaaGreatDoorW.PrintLast Go.Proofs.YtkhgeonlohafgaaGreatDoorW.PrintMore
attribute [local go_sem] max2_int min2_int max_two min_two max_three min_three max_four min_four   -- for this text's walks alone
set_option linter.unusedVariables false
set_option linter.unusedSimpArgs false
mutual
def gronx_zzContainsAny.l0 : Nat → ByteArray → ByteArray → Int → Option (Bool)
  | 0, _, _, _ => none
  | k + 1, x0, x1, x5 => if x5 < (x0.size : Int) then (gronx_zzContainsAny.l1 k x0 x1 x5 0) else (some false)
def gronx_zzContainsAny.l1 : Nat → ByteArray → ByteArray → Int → Int → Option (Bool)
  | 0, _, _, _, _ => none
  | k + 1, x0, x1, x5, x6 => if x6 < (x1.size : Int) then (if 0 ≤ x5 then (if x5 < (x0.size : Int) then (if 0 ≤ x6 then (if (bt x0 x5) = (bt x1 x6) then (some true) else (gronx_zzContainsAny.l1 k x0 x1 x5 (wrap64 (x6 + 1)))) else (none)) else (none)) else (none)) else (gronx_zzContainsAny.l0 k x0 x1 (wrap64 (x5 + 1)))
end
def gronx_zzContainsAny.f (k : Nat) (a0 : ByteArray) (a1 : ByteArray) : Option (Bool) := gronx_zzContainsAny.l0 k a0 a1 0
set_option maxHeartbeats 8000000 in
set_option maxRecDepth 100000 in
theorem gronx_zzContainsAny.calls (k : Nat) (a0 : ByteArray) (a1 : ByteArray) (r : Bool) (w : World) (h : gronx_zzContainsAny.f k a0 a1 = some r) :
    Calls Tryz.prog 55 #[.string a0, .string a1] w fun e w' => e = .returned (.bool r) ∧ Drawn0 w w' := by
  have H : (gronx_zzContainsAny.l0 k a0 a1 0) = some r := h
  clear h
  have H' := Aside0.mk H
  clear H
  go_enter Tryz.func55, Tryz.ntmps55
  go_wp2
  repeat (go_quiet (fail); try go_wp2)
  go_loopg [5] k (fun kq v5 w' => ∃ (x5_1 : Int), v5 = .int .i64 x5_1 ∧ Aside0 (gronx_zzContainsAny.l0 kq a0 a1 x5_1 = some r) ∧ Aside0 (kq ≤ k) ∧ Drawn0 w w')
  case atStart => exact ⟨(0), (by first | rfl | (simp; done) | (simp [*]; done)), H', ⟨Nat.le_refl _⟩, by repeat (first | exact Drawn0.refl _ | apply Drawn0.step)⟩
  case round =>
    clear H'
    try clear p2
    obtain ⟨x5_1, rfl, HA, HK1, ⟨m1, rfl⟩⟩ := hrel
    cases gk with
    | zero => exact absurd HA.out (by simp [gronx_zzContainsAny.l0])
    | succ k1 =>
      have H := HA.out
      clear HA
      simp only [gronx_zzContainsAny.l0] at H
      by_cases c3 : x5_1 < (a0.size : Int)
      · rw [if_pos c3] at H
        have c3b0 : decide (x5_1 < (a0.size : Int)) = true := decide_eq_true c3
        clear c3
        have H' := Aside0.mk H
        clear H
        go_wp2
        repeat (go_quiet (fail); try go_wp2)
        go_loopg [6] k1 (fun kq v6 w' => ∃ (x6_2 : Int), v6 = .int .i64 x6_2 ∧ Aside0 (gronx_zzContainsAny.l1 kq a0 a1 x5_1 x6_2 = some r) ∧ Aside0 (kq ≤ k1) ∧ Drawn0 w w')
        case atStart => exact ⟨(0), (by first | rfl | (simp; done) | (simp [*]; done)), H', ⟨Nat.le_refl _⟩, by repeat (first | exact Drawn0.refl _ | apply Drawn0.step)⟩
        case round =>
          clear H'
          try clear p2
          try clear c3
          try clear c3b0
          try clear p2
          obtain ⟨x6_2, rfl, HA, HK2, ⟨m2, rfl⟩⟩ := hrel
          cases gk with
          | zero => exact absurd HA.out (by simp [gronx_zzContainsAny.l1])
          | succ k2 =>
            have H := HA.out
            clear HA
            simp only [gronx_zzContainsAny.l1] at H
            by_cases c4 : x6_2 < (a1.size : Int)
            · rw [if_pos c4] at H
              have c4b0 : decide (x6_2 < (a1.size : Int)) = true := decide_eq_true c4
              clear c4
              by_cases c5 : 0 ≤ x5_1
              · rw [if_pos c5] at H
                have c5b0 : decide (0 ≤ x5_1) = true := decide_eq_true c5
                clear c5
                by_cases c6 : x5_1 < (a0.size : Int)
                · rw [if_pos c6] at H
                  have c6b0 : decide (x5_1 < (a0.size : Int)) = true := decide_eq_true c6
                  clear c6
                  by_cases c8 : 0 ≤ x6_2
                  · rw [if_pos c8] at H
                    have c8b0 : decide (0 ≤ x6_2) = true := decide_eq_true c8
                    clear c8
                    by_cases c10 : (bt a0 x5_1) = (bt a1 x6_2)
                    · rw [if_pos c10] at H
                      have c10b0 : ((bt a0 x5_1) == (bt a1 x6_2)) = true := beq_iff_eq.mpr c10
                      have c10b1 : ((bt a0 x5_1) != (bt a1 x6_2)) = false := bne_eq_false_iff_eq.mpr c10
                      clear c10
                      obtain rfl := Option.some.inj H
                      have p7 : 0 ≤ (x5_1 : Int) := of_decide_eq_true (by first | (with_reducible assumption) | assumption)
                      have q7 : x5_1 < (a0.size : Int) := of_decide_eq_true (by first | (with_reducible assumption) | assumption)
                      have hx7 := bt_at a0 x5_1
                      replace p7 := eq_true p7
                      replace q7 := eq_true q7
                      have p9 : 0 ≤ (x6_2 : Int) := of_decide_eq_true (by first | (with_reducible assumption) | assumption)
                      have q9 : x6_2 < (a1.size : Int) := of_decide_eq_true (by first | (with_reducible assumption) | assumption)
                      have hx9 := bt_at a1 x6_2
                      replace p9 := eq_true p9
                      replace q9 := eq_true q9
                      go_wp2
                      repeat (go_quiet (fail); try go_wp2)
                      go_ret
                      exact ⟨by first | rfl | (simp; done) | (simp [*]; done), by repeat (first | exact Drawn0.refl _ | apply Drawn0.step)⟩
                    · rw [if_neg c10] at H
                      have c10b0 : ((bt a0 x5_1) == (bt a1 x6_2)) = false := beq_eq_false_iff_ne.mpr c10
                      have c10b1 : ((bt a0 x5_1) != (bt a1 x6_2)) = true := bne_iff_ne.mpr c10
                      have H' := Aside0.mk H
                      clear H
                      have p7 : 0 ≤ (x5_1 : Int) := of_decide_eq_true (by first | (with_reducible assumption) | assumption)
                      have q7 : x5_1 < (a0.size : Int) := of_decide_eq_true (by first | (with_reducible assumption) | assumption)
                      have hx7 := bt_at a0 x5_1
                      replace p7 := eq_true p7
                      replace q7 := eq_true q7
                      have p9 : 0 ≤ (x6_2 : Int) := of_decide_eq_true (by first | (with_reducible assumption) | assumption)
                      have q9 : x6_2 < (a1.size : Int) := of_decide_eq_true (by first | (with_reducible assumption) | assumption)
                      have hx9 := bt_at a1 x6_2
                      replace p9 := eq_true p9
                      replace q9 := eq_true q9
                      go_wp2
                      repeat (go_quiet (fail); try go_wp2)
                      go_roundg k2
                      case measure => have := HK1.out; have := HK2.out; omega
                      case rel => exact ⟨(wrap64 (x6_2 + 1)), (by first | rfl | (simp; done) | (simp [*]; done)), H', ⟨by have := HK1.out; have := HK2.out; omega⟩, by repeat (first | exact Drawn0.refl _ | apply Drawn0.step)⟩
                  · rw [if_neg c8] at H
                    exact absurd H (by simp)
                · rw [if_neg c6] at H
                  exact absurd H (by simp)
              · rw [if_neg c5] at H
                exact absurd H (by simp)
            · rw [if_neg c4] at H
              have c4b0 : decide (x6_2 < (a1.size : Int)) = false := decide_eq_false c4
              clear c4
              have H' := Aside0.mk H
              clear H
              go_wp2
              repeat (go_quiet (fail); try go_wp2)
              go_roundg k2
              case measure => have := HK1.out; have := HK2.out; omega
              case rel => exact ⟨(wrap64 (x5_1 + 1)), (by first | rfl | (simp; done) | (simp [*]; done)), H', ⟨by have := HK1.out; have := HK2.out; omega⟩, by repeat (first | exact Drawn0.refl _ | apply Drawn0.step)⟩
      · rw [if_neg c3] at H
        have c3b0 : decide (x5_1 < (a0.size : Int)) = false := decide_eq_false c3
        clear c3
        obtain rfl := Option.some.inj H
        go_wp2
        repeat (go_quiet (fail); try go_wp2)
        go_ret
        exact ⟨by first | rfl | (simp; done) | (simp [*]; done), by repeat (first | exact Drawn0.refl _ | apply Drawn0.step)⟩
end Go.Proofs.YtkhgeonlohafgaaGreatDoor.Core
namespace Go.Proofs.YtkhgeonlohafgaaGreatDoor.Core
open Go.RowKit Go.Proofs.YtkhgeonlohafgaaGreatDoorW.PrintWords Go.Proofs.YtkhgeonlohafgaaGreatDoorW.PrintLast Go.Proofs.YtkhgeonlohafgaaGreatDoorW.PrintMore
attribute [local go_sem] max2_int min2_int max_two min_two max_three min_three max_four min_four   -- for this text's walks alone
set_option linter.unusedVariables false
set_option linter.unusedSimpArgs false
end Go.Proofs.YtkhgeonlohafgaaGreatDoor.Core
namespace Go.Proofs.YtkhgeonlohafgaaGreatDoor.Core
open Go.RowKit Go.Proofs.YtkhgeonlohafgaaGreatDoorW.PrintWords
theorem any_from (l m : List UInt8) (hl : l.length < 4611686018427387904) (hm : m.length < 4611686018427387904) :
    ∀ (rest : List UInt8) (i : Nat), l.drop i = rest → i ≤ l.length → Ev (fun k => gronx_zzContainsAny.l0 k (B l) (B m) (i : Int)) (rest.any fun b => m.contains b) := by
  intro rest
  induction rest with
  | nil =>
    intro i hi hil
    have hlen : l.length ≤ i := List.drop_eq_nil_iff.1 hi
    refine Ev.done fun k => ?_
    simp only [gronx_zzContainsAny.l0, B_size]
    rw [if_neg (by omega)]
    rfl
  | cons b t ih =>
    intro i hi hil
    have hlen : t.length + 1 = l.length - i := by have := congrArg List.length hi; simpa using this.symm
    have hlt : i < l.length := by omega
    have hb : l[i] = b := by
      have := List.drop_eq_getElem_cons hlt
      rw [hi] at this
      exact (List.cons.inj this).1.symm
    have ht : l.drop (i + 1) = t := by rw [← List.drop_drop, hi]; rfl
    have hrec := ih (i + 1) ht (by omega)
    have inner : ∀ (rm : List UInt8) (j : Nat), m.drop j = rm → j ≤ m.length → Ev (fun k => gronx_zzContainsAny.l1 k (B l) (B m) (i : Int) (j : Int)) (rm.contains b || t.any fun b => m.contains b) := by
      intro rm
      induction rm with
      | nil =>
        intro j hj hjl
        have hlen : m.length ≤ j := List.drop_eq_nil_iff.1 hj
        refine Ev.step (f := fun k => gronx_zzContainsAny.l0 k (B l) (B m) ((i + 1 : Nat) : Int)) (fun k => ?_) (by simpa using hrec)
        simp only [gronx_zzContainsAny.l1, B_size]
        rw [if_neg (by omega), wrap64_nat i (by omega)]
      | cons c s ihs =>
        intro j hj hjl
        have hlen : s.length + 1 = m.length - j := by have := congrArg List.length hj; simpa using this.symm
        have hjt : j < m.length := by omega
        have hc : m[j] = c := by
          have := List.drop_eq_getElem_cons hjt
          rw [hj] at this
          exact (List.cons.inj this).1.symm
        have hs : m.drop (j + 1) = s := by rw [← List.drop_drop, hj]; rfl
        have e1 : bt (B l) (i : Int) = (b.toNat : Int) := by rw [bt_B_at l i hlt, hb]
        have e2 : bt (B m) (j : Int) = (c.toNat : Int) := by rw [bt_B_at m j hjt, hc]
        by_cases hbc : b = c
        · refine Ev.done fun k => ?_
          simp only [gronx_zzContainsAny.l1, B_size, e1, e2]
          rw [if_pos (by omega), if_pos (by omega), if_pos (by omega), if_pos (by omega), if_pos (by rw [hbc])]
          simp [hbc]
        · have hne : ¬ ((b.toNat : Int) = (c.toNat : Int)) := fun e => hbc (UInt8.toNat_inj.1 (by omega))
          refine Ev.step (f := fun k => gronx_zzContainsAny.l1 k (B l) (B m) (i : Int) ((j + 1 : Nat) : Int)) (fun k => ?_) (by simpa [hbc] using ihs (j + 1) hs (by omega))
          simp only [gronx_zzContainsAny.l1, B_size, e1, e2]
          rw [if_pos (by omega), if_pos (by omega), if_pos (by omega), if_pos (by omega), if_neg hne, wrap64_nat j (by omega)]
    refine Ev.step (f := fun k => gronx_zzContainsAny.l1 k (B l) (B m) (i : Int) ((0 : Nat) : Int)) (fun k => ?_) (inner m 0 rfl (Nat.zero_le _))
    simp only [gronx_zzContainsAny.l0, B_size]
    rw [if_pos (by omega)]
    rfl
theorem any_ev (l m : List UInt8) (hl : l.length < 4611686018427387904) (hm : m.length < 4611686018427387904) : Ev (fun k => gronx_zzContainsAny.f k (B l) (B m)) (l.any fun b => m.contains b) := any_from l m hl hm l 0 rfl (Nat.zero_le _)
end Go.Proofs.YtkhgeonlohafgaaGreatDoor.Core
