/- Contracts and plain lemmas of this seat (part 3), merged by wip/merge2.py; what is proved stands in the claim's last text. -/
import Derived.Test.YtemgofomhjabpaaGreatDoorCLis1
import Derived.Test.YtemgofomhjabpaaGreatDoorCLis2
import Derived.Shelf.Strings.Builder1
import Derived.Shelf.Strings.Builder2
import Derived.Shelf.Strings.OnBuilder
import Derived.Shelf.Small.Utf8
import Derived.Shelf.Strconv.Atoi
import Derived.Shelf.Strconv.AtoiErrFast
import Derived.Shelf.Strconv.ParseIntEmpty
import Derived.Shelf.Strconv.AtoiFail
import Derived.Shelf.LaysM
import Derived.Shelf.Strconv.Clone
import Derived.Shelf.Strconv.SyntaxError
import Derived.Shelf.LaysC
import Derived.Shelf.Strconv.ToError
import Derived.Shelf.Strconv.AtoiErr
import Derived.Shelf.Unicode.Latin
import Derived.Shelf.Unicode.DecodeSlow
import Derived.Shelf.Unicode.CaseLookup
import Derived.Shelf.Unicode.CaseConvert
import Derived.Shelf.Unicode.CaseTo
import Derived.Shelf.Unicode.CaseLaid
import Derived.Test.YtemgofomhjabpaaGreatDoorProg
namespace Go.Proofs.YtemgofomhjabpaaGreatDoor.Core
open Go.RowKit Go.Proofs.YtemgofomhjabpaaGreatDoorW.PrintWords Go.Proofs.YtemgofomhjabpaaGreatDoorW.PrintLast Go.Proofs.YtemgofomhjabpaaGreatDoorW.PrintMore
attribute [local go_sem] max2_int min2_int max_two min_two max_three min_three max_four min_four   -- for this text's walks alone
set_option linter.unusedVariables false
set_option linter.unusedSimpArgs false
mutual
def gronx_zzSpaces.l0 : Nat → ByteArray → List Int → Bool → Int → Option (ByteArray)
  | 0, _, _, _, _ => none
  | k + 1, x0, x3, x4, x5 => if x5 < (x0.size : Int) then (if 0 ≤ x5 then (if (bt x0 x5) = 32 then (gronx_zzSpaces.j1 k x0 x3 x4 x5 ((bt x0 x5) == 32)) else (if (bt x0 x5) = 9 then (gronx_zzSpaces.j1 k x0 x3 x4 x5 ((bt x0 x5) == 9)) else (if (bt x0 x5) = 10 then (gronx_zzSpaces.j1 k x0 x3 x4 x5 ((bt x0 x5) == 10)) else (if (bt x0 x5) = 12 then (gronx_zzSpaces.j1 k x0 x3 x4 x5 ((bt x0 x5) == 12)) else (gronx_zzSpaces.j1 k x0 x3 x4 x5 ((bt x0 x5) == 13)))))) else (none)) else (some (strOfNums x3))
def gronx_zzSpaces.j1 : Nat → ByteArray → List Int → Bool → Int → Bool → Option (ByteArray)
  | 0, _, _, _, _, _ => none
  | k + 1, x0, x3, x4, x5, x21 => if x21 = true then (if x4 = true then (gronx_zzSpaces.l0 k x0 x3 true (wrap64 (x5 + 1))) else (if x3.length < 140737488355328 then (gronx_zzSpaces.l0 k x0 (x3 ++ [32]) true (wrap64 (x5 + 1))) else (none))) else (if 0 ≤ x5 then (if x5 < (x0.size : Int) then (if x3.length < 140737488355328 then (gronx_zzSpaces.l0 k x0 (x3 ++ [bt x0 x5]) false (wrap64 (x5 + 1))) else (none)) else (none)) else (none))
end
def gronx_zzSpaces.f (k : Nat) (a0 : ByteArray) : Option (ByteArray) := gronx_zzSpaces.l0 k a0 ([] : List Int) false 0
set_option maxHeartbeats 8000000 in
set_option maxRecDepth 100000 in
theorem gronx_zzSpaces.calls (k : Nat) (a0 : ByteArray) (r : ByteArray) (w : World) (h : gronx_zzSpaces.f k a0 = some r) :
    Calls Tryz.prog 59 #[.string a0] w fun e w' => e = .returned (.string r) ∧ Below w.heap.size w w' := by
  have HB := Aside0.mk (Below.refl w.heap.size w)
  have H : (gronx_zzSpaces.l0 k a0 ([] : List Int) false 0) = some r := h
  clear h
  have H' := Aside0.mk H
  clear H
  go_enter Tryz.func59, Tryz.ntmps59
  go_wp2
  go_loopg [3, 4, 5] k (fun kq v3 v4 v5 w' => ∃ (x3_1 : List Int) (x4_1 : Bool) (x5_1 : Int), v4 = .bool x4_1 ∧ v5 = .int .i64 x5_1 ∧ Aside0 (gronx_zzSpaces.l0 kq a0 x3_1 x4_1 x5_1 = some r) ∧ Aside0 (kq ≤ k) ∧ Aside0 (Kd.R (Kd.int .u8) 5 w' w.heap.size (fun _ => True) v3 x3_1) ∧ Aside0 (Below w.heap.size w w'))
  case atStart => exact ⟨(([] : List Int)), (false), (0), (by first | rfl | (simp; done) | (simp [*]; done)), (by first | rfl | (simp; done) | (simp [*]; done)), H', ⟨Nat.le_refl _⟩, ⟨by first | exact Kd.R_nil _ _ _ _ _ | exact Kd.N_nil _ _ _ _ _ | exact Kd.V_nil _ _ _ _ _ | exact Kd.Q_nil _ _ _ _ _ | exact Kd.S_nil _ _ _ _ _⟩, ⟨by repeat (first | (with_reducible first | exact HB.out | apply below_alloc | apply pw_below_drewN | apply below_drew1) | exact HB.out)⟩⟩
  case round =>
    clear H'
    obtain ⟨x3_1, x4_1, x5_1, rfl, rfl, HA, HK1, HO_3, HB⟩ := hrel
    cases gk with
    | zero => exact absurd HA.out (by simp [gronx_zzSpaces.l0])
    | succ k1 =>
      have H := HA.out
      clear HA
      simp only [gronx_zzSpaces.l0] at H
      by_cases c2 : x5_1 < (a0.size : Int)
      · rw [if_pos c2] at H
        have c2b0 : decide (x5_1 < (a0.size : Int)) = true := decide_eq_true c2
        clear c2
        by_cases c3 : 0 ≤ x5_1
        · rw [if_pos c3] at H
          have c3b0 : decide (0 ≤ x5_1) = true := decide_eq_true c3
          clear c3
          have HC5 := Aside0.mk H
          clear H
          have p4 : 0 ≤ (x5_1 : Int) := of_decide_eq_true (by first | (with_reducible assumption) | assumption)
          have q4 : x5_1 < (a0.size : Int) := of_decide_eq_true (by first | (with_reducible assumption) | assumption)
          have hx4 := bt_at a0 x5_1
          replace p4 := eq_true p4
          replace q4 := eq_true q4
          go_upto_if 21 with (fail)
          go_cut [21] (fun v21 wc => ∃ (kq : Nat) (x21_4 : Bool), v21 = .bool x21_4 ∧ Aside0 (gronx_zzSpaces.j1 kq a0 x3_1 x4_1 x5_1 x21_4 = some r) ∧ Aside0 (kq ≤ k1) ∧ Aside0 (Kd.R (Kd.int .u8) 5 wc w.heap.size (fun _ => True) u3 x3_1) ∧ Aside0 (Below w.heap.size w wc))
          case first =>
            have H := HC5.out
            clear HC5
            by_cases c6 : (bt a0 x5_1) = 32
            · rw [if_pos c6] at H
              have c6b0 : ((bt a0 x5_1) == 32) = true := beq_iff_eq.mpr c6
              have c6b1 : ((bt a0 x5_1) != 32) = false := bne_eq_false_iff_eq.mpr c6
              clear c6
              (first | rw [c6b0] | (simp only [i64_w, i32_w]; rw [c6b0]) | skip)
              have H' := Aside0.mk H
              clear H
              go_wp2
              go_meet
              case rel => exact ⟨_, (((bt a0 x5_1) == 32)), (by first | rfl | (simp; done) | (simp [*]; done)), H', ⟨by have := HK1.out; first | omega | exact Nat.le_refl _⟩, ⟨by (with_reducible repeat (first | apply Kd.R_alloc | apply Kd.R_drewN | apply Kd.R_drew)); exact HO_3.out⟩, ⟨by repeat (first | (with_reducible first | exact HB.out | apply below_alloc | apply pw_below_drewN | apply below_drew1) | exact HB.out)⟩⟩
            · rw [if_neg c6] at H
              have c6b0 : ((bt a0 x5_1) == 32) = false := beq_eq_false_iff_ne.mpr c6
              have c6b1 : ((bt a0 x5_1) != 32) = true := bne_iff_ne.mpr c6
              (first | rw [c6b0] | (simp only [i64_w, i32_w]; rw [c6b0]) | skip)
              by_cases c7 : (bt a0 x5_1) = 9
              · rw [if_pos c7] at H
                have c7b0 : ((bt a0 x5_1) == 9) = true := beq_iff_eq.mpr c7
                have c7b1 : ((bt a0 x5_1) != 9) = false := bne_eq_false_iff_eq.mpr c7
                clear c7
                have H' := Aside0.mk H
                clear H
                go_wp2
                go_meet
                case rel => exact ⟨_, (((bt a0 x5_1) == 9)), (by first | rfl | (simp; done) | (simp [*]; done)), H', ⟨by have := HK1.out; first | omega | exact Nat.le_refl _⟩, ⟨by (with_reducible repeat (first | apply Kd.R_alloc | apply Kd.R_drewN | apply Kd.R_drew)); exact HO_3.out⟩, ⟨by repeat (first | (with_reducible first | exact HB.out | apply below_alloc | apply pw_below_drewN | apply below_drew1) | exact HB.out)⟩⟩
              · rw [if_neg c7] at H
                have c7b0 : ((bt a0 x5_1) == 9) = false := beq_eq_false_iff_ne.mpr c7
                have c7b1 : ((bt a0 x5_1) != 9) = true := bne_iff_ne.mpr c7
                by_cases c8 : (bt a0 x5_1) = 10
                · rw [if_pos c8] at H
                  have c8b0 : ((bt a0 x5_1) == 10) = true := beq_iff_eq.mpr c8
                  have c8b1 : ((bt a0 x5_1) != 10) = false := bne_eq_false_iff_eq.mpr c8
                  clear c8
                  have H' := Aside0.mk H
                  clear H
                  go_wp2
                  go_meet
                  case rel => exact ⟨_, (((bt a0 x5_1) == 10)), (by first | rfl | (simp; done) | (simp [*]; done)), H', ⟨by have := HK1.out; first | omega | exact Nat.le_refl _⟩, ⟨by (with_reducible repeat (first | apply Kd.R_alloc | apply Kd.R_drewN | apply Kd.R_drew)); exact HO_3.out⟩, ⟨by repeat (first | (with_reducible first | exact HB.out | apply below_alloc | apply pw_below_drewN | apply below_drew1) | exact HB.out)⟩⟩
                · rw [if_neg c8] at H
                  have c8b0 : ((bt a0 x5_1) == 10) = false := beq_eq_false_iff_ne.mpr c8
                  have c8b1 : ((bt a0 x5_1) != 10) = true := bne_iff_ne.mpr c8
                  by_cases c9 : (bt a0 x5_1) = 12
                  · rw [if_pos c9] at H
                    have c9b0 : ((bt a0 x5_1) == 12) = true := beq_iff_eq.mpr c9
                    have c9b1 : ((bt a0 x5_1) != 12) = false := bne_eq_false_iff_eq.mpr c9
                    clear c9
                    have H' := Aside0.mk H
                    clear H
                    go_wp2
                    go_meet
                    case rel => exact ⟨_, (((bt a0 x5_1) == 12)), (by first | rfl | (simp; done) | (simp [*]; done)), H', ⟨by have := HK1.out; first | omega | exact Nat.le_refl _⟩, ⟨by (with_reducible repeat (first | apply Kd.R_alloc | apply Kd.R_drewN | apply Kd.R_drew)); exact HO_3.out⟩, ⟨by repeat (first | (with_reducible first | exact HB.out | apply below_alloc | apply pw_below_drewN | apply below_drew1) | exact HB.out)⟩⟩
                  · rw [if_neg c9] at H
                    have c9b0 : ((bt a0 x5_1) == 12) = false := beq_eq_false_iff_ne.mpr c9
                    have c9b1 : ((bt a0 x5_1) != 12) = true := bne_iff_ne.mpr c9
                    have H' := Aside0.mk H
                    clear H
                    go_wp2
                    go_meet
                    case rel => exact ⟨_, (((bt a0 x5_1) == 13)), (by first | rfl | (simp; done) | (simp [*]; done)), H', ⟨by have := HK1.out; first | omega | exact Nat.le_refl _⟩, ⟨by (with_reducible repeat (first | apply Kd.R_alloc | apply Kd.R_drewN | apply Kd.R_drew)); exact HO_3.out⟩, ⟨by repeat (first | (with_reducible first | exact HB.out | apply below_alloc | apply pw_below_drewN | apply below_drew1) | exact HB.out)⟩⟩
          case rest =>
            clear HC5
            try clear c2
            try clear c2b0
            try clear p2
            try clear c3
            try clear c3b0
            try clear p4
            try clear q4
            try clear hx4
            try clear c5
            try clear c6
            try clear c6b0
            try clear c6b1
            try clear c7
            try clear c7b0
            try clear c7b1
            try clear c8
            try clear c8b0
            try clear c8b1
            try clear c9
            try clear c9b0
            try clear c9b1
            try clear p4
            try clear q4
            obtain ⟨kq, x21_4, rfl, HA, HJ4, HO_3, HB⟩ := hcut
            cases kq with
            | zero => exact absurd HA.out (by simp [gronx_zzSpaces.j1])
            | succ kj4 =>
              have H := HA.out
              clear HA
              simp only [gronx_zzSpaces.j1] at H
              by_cases c10 : x21_4 = true
              · subst c10
                have H1 : (if x4_1 = true then (gronx_zzSpaces.l0 kj4 a0 x3_1 true (wrap64 (x5_1 + 1))) else (if x3_1.length < 140737488355328 then (gronx_zzSpaces.l0 kj4 a0 (x3_1 ++ [32]) true (wrap64 (x5_1 + 1))) else (none))) = some r := by rw [if_pos rfl] at H; exact H
                clear H
                have H := H1
                clear H1
                by_cases c11 : x4_1 = true
                · subst c11
                  have H1 : (gronx_zzSpaces.l0 kj4 a0 x3_1 true (wrap64 (x5_1 + 1))) = some r := by rw [if_pos rfl] at H; exact H
                  clear H
                  have H := H1
                  clear H1
                  have H' := Aside0.mk H
                  clear H
                  go_wp2
                  go_roundg kj4
                  case measure => have := HK1.out; have := HJ4.out; omega
                  case rel => exact ⟨(x3_1), (true), (wrap64 (x5_1 + 1)), (by first | rfl | (simp; done) | (simp [*]; done)), (by first | rfl | (simp; done) | (simp [*]; done)), H', ⟨by have := HK1.out; have := HJ4.out; omega⟩, ⟨by (with_reducible repeat (first | apply Kd.R_alloc | apply Kd.R_drewN | apply Kd.R_drew)); exact HO_3.out⟩, ⟨by repeat (first | (with_reducible first | exact HB.out | apply below_alloc | apply pw_below_drewN | apply below_drew1) | exact HB.out)⟩⟩
                · replace c11 := Bool.eq_false_iff.mpr c11
                  subst c11
                  have H1 : (if x3_1.length < 140737488355328 then (gronx_zzSpaces.l0 kj4 a0 (x3_1 ++ [32]) true (wrap64 (x5_1 + 1))) else (none)) = some r := by rw [if_neg (show ¬ (false = true) by decide)] at H; exact H
                  clear H
                  have H := H1
                  clear H1
                  by_cases c12 : x3_1.length < 140737488355328
                  · rw [if_pos c12] at H
                    have LMc12 := Aside0.mk c12
                    clear c12
                    obtain ⟨y323, hy323⟩ : ∃ y_ : List Int, y_ = (x3_1 ++ [32]) := ⟨_, rfl⟩
                    replace H : (gronx_zzSpaces.l0 kj4 a0 y323 true (wrap64 (x5_1 + 1))) = some r := by first | (rw [hy323]; with_reducible exact H) | (have H2_ := (Option.bind_some _ _).symm.trans H; rw [hy323]; with_reducible exact H2_) | (have H2_ := (Option.bind_some _ _).symm.trans H; with_reducible exact H2_) | with_reducible exact H | (rw [hy323]; exact H) | exact H
                    have Ny323 := Aside0.mk hy323
                    clear hy323
                    have H' := Aside0.mk H
                    clear H
                    go_wp2_with (first | ((with_reducible refine gate_builtin (b := .append) (xs := #[.tmp 29, .tmp 30]) rfl ?_); at_builtin; refine Kd.R_append (Kd.int .u8) (w0 := w) w.heap.size rfl (.tmp 29) (.tmp 30) 137 5 (.int .u8 0) 1 rfl Tryz.underlying137 info5 rfl (by decide) (by omega) u3 x3_1 32 [.int .u8 32] (fun _ => True) (fun _ => False) rfl rfl ?aP (fun _ hk => hk.elim) ?aF ?aO ?aB ?aS ?aL ?_; (case aP => exact rfl); (case aB => exact (by repeat (first | (with_reducible first | exact HB.out | apply below_alloc | apply pw_below_drewN | apply below_drew1) | exact HB.out))); (case aF => exact (fun _ _ => trivial)); (case aO => exact (by (with_reducible repeat (first | apply Kd.R_alloc | apply Kd.R_drewN | apply Kd.R_drew)); exact HO_3.out)); (case aS => exact (below_size (by repeat (first | (with_reducible first | exact HB.out | apply below_alloc | apply pw_below_drewN | apply below_drew1) | exact HB.out)))); (case aL => have := LMc12.out; omega); intro v324 w13 ho hb hg hat; rw [← Ny323.out] at ho; have n0_ := Aside0.mk (hb); have n1_ := Aside0.mk (ho); clear HB; clear HO_3; have HB := n0_; have HO325 := n1_; clear n0_ n1_; clear ho hb hg hat))
                    go_roundg kj4
                    case measure => have := HK1.out; have := HJ4.out; omega
                    case rel => exact ⟨(y323), (true), (wrap64 (x5_1 + 1)), (by first | rfl | (simp; done) | (simp [*]; done)), (by first | rfl | (simp; done) | (simp [*]; done)), H', ⟨by have := HK1.out; have := HJ4.out; omega⟩, ⟨by (with_reducible repeat (first | apply Kd.R_alloc | apply Kd.R_drewN | apply Kd.R_drew)); exact HO325.out⟩, ⟨by repeat (first | (with_reducible first | exact HB.out | apply below_alloc | apply pw_below_drewN | apply below_drew1) | exact HB.out)⟩⟩
                  · rw [if_neg c12] at H
                    exact absurd H (by simp)
              · replace c10 := Bool.eq_false_iff.mpr c10
                subst c10
                have H1 : (if 0 ≤ x5_1 then (if x5_1 < (a0.size : Int) then (if x3_1.length < 140737488355328 then (gronx_zzSpaces.l0 kj4 a0 (x3_1 ++ [bt a0 x5_1]) false (wrap64 (x5_1 + 1))) else (none)) else (none)) else (none)) = some r := by rw [if_neg (show ¬ (false = true) by decide)] at H; exact H
                clear H
                have H := H1
                clear H1
                by_cases c14 : 0 ≤ x5_1
                · rw [if_pos c14] at H
                  have c14b0 : decide (0 ≤ x5_1) = true := decide_eq_true c14
                  clear c14
                  by_cases c15 : x5_1 < (a0.size : Int)
                  · rw [if_pos c15] at H
                    have c15b0 : decide (x5_1 < (a0.size : Int)) = true := decide_eq_true c15
                    clear c15
                    by_cases c17 : x3_1.length < 140737488355328
                    · rw [if_pos c17] at H
                      have LMc17 := Aside0.mk c17
                      clear c17
                      obtain ⟨y326, hy326⟩ : ∃ y_ : List Int, y_ = (x3_1 ++ [bt a0 x5_1]) := ⟨_, rfl⟩
                      replace H : (gronx_zzSpaces.l0 kj4 a0 y326 false (wrap64 (x5_1 + 1))) = some r := by first | (rw [hy326]; with_reducible exact H) | (have H2_ := (Option.bind_some _ _).symm.trans H; rw [hy326]; with_reducible exact H2_) | (have H2_ := (Option.bind_some _ _).symm.trans H; with_reducible exact H2_) | with_reducible exact H | (rw [hy326]; exact H) | exact H
                      have Ny326 := Aside0.mk hy326
                      clear hy326
                      have H' := Aside0.mk H
                      clear H
                      have p16 : 0 ≤ (x5_1 : Int) := of_decide_eq_true (by first | (with_reducible assumption) | assumption)
                      have q16 : x5_1 < (a0.size : Int) := of_decide_eq_true (by first | (with_reducible assumption) | assumption)
                      have hx16 := bt_at a0 x5_1
                      replace p16 := eq_true p16
                      replace q16 := eq_true q16
                      go_wp2_with (first | ((with_reducible refine gate_builtin (b := .append) (xs := #[.tmp 15, .tmp 19]) rfl ?_); at_builtin; refine Kd.R_append (Kd.int .u8) (w0 := w) w.heap.size rfl (.tmp 15) (.tmp 19) 137 5 (.int .u8 0) 1 rfl Tryz.underlying137 info5 rfl (by decide) (by omega) u3 x3_1 (bt a0 x5_1) [.int .u8 (bt a0 x5_1)] (fun _ => True) (fun _ => False) rfl rfl ?aP (fun _ hk => hk.elim) ?aF ?aO ?aB ?aS ?aL ?_; (case aP => exact rfl); (case aB => exact (by repeat (first | (with_reducible first | exact HB.out | apply below_alloc | apply pw_below_drewN | apply below_drew1) | exact HB.out))); (case aF => exact (fun _ _ => trivial)); (case aO => exact (by (with_reducible repeat (first | apply Kd.R_alloc | apply Kd.R_drewN | apply Kd.R_drew)); exact HO_3.out)); (case aS => exact (below_size (by repeat (first | (with_reducible first | exact HB.out | apply below_alloc | apply pw_below_drewN | apply below_drew1) | exact HB.out)))); (case aL => have := LMc17.out; omega); intro v327 w18 ho hb hg hat; rw [← Ny326.out] at ho; have n0_ := Aside0.mk (hb); have n1_ := Aside0.mk (ho); clear HB; clear HO_3; have HB := n0_; have HO328 := n1_; clear n0_ n1_; clear ho hb hg hat))
                      go_roundg kj4
                      case measure => have := HK1.out; have := HJ4.out; omega
                      case rel => exact ⟨(y326), (false), (wrap64 (x5_1 + 1)), (by first | rfl | (simp; done) | (simp [*]; done)), (by first | rfl | (simp; done) | (simp [*]; done)), H', ⟨by have := HK1.out; have := HJ4.out; omega⟩, ⟨by (with_reducible repeat (first | apply Kd.R_alloc | apply Kd.R_drewN | apply Kd.R_drew)); exact HO328.out⟩, ⟨by repeat (first | (with_reducible first | exact HB.out | apply below_alloc | apply pw_below_drewN | apply below_drew1) | exact HB.out)⟩⟩
                    · rw [if_neg c17] at H
                      exact absurd H (by simp)
                  · rw [if_neg c15] at H
                    exact absurd H (by simp)
                · rw [if_neg c14] at H
                  exact absurd H (by simp)
        · rw [if_neg c3] at H
          exact absurd H (by simp)
      · rw [if_neg c2] at H
        have c2b0 : decide (x5_1 < (a0.size : Int)) = false := decide_eq_false c2
        clear c2
        obtain rfl := Option.some.inj H
        have hcv19 := own_string (P := Tryz.prog) Tryz.underlying137 Tryz.underlying5 Tryz.underlying9 (Kd.own_of_R HO_3.out)
        go_wp2
        go_ret
        exact ⟨by first | rfl | (simp [errW_none, errW_some] <;> rfl) | (simp [*, errW_none, errW_some] <;> rfl), by repeat (first | (with_reducible first | exact HB.out | apply below_alloc | apply pw_below_drewN | apply below_drew1) | exact HB.out)⟩
end Go.Proofs.YtemgofomhjabpaaGreatDoor.Core
namespace Go.Proofs.YtemgofomhjabpaaGreatDoor.Core
open Go.RowKit Go.Proofs.YtemgofomhjabpaaGreatDoorW.PrintWords Go.Proofs.YtemgofomhjabpaaGreatDoorW.PrintLast Go.Proofs.YtemgofomhjabpaaGreatDoorW.PrintMore
attribute [local go_sem] max2_int min2_int max_two min_two max_three min_three max_four min_four   -- for this text's walks alone
set_option linter.unusedVariables false
set_option linter.unusedSimpArgs false
def gronx_literal.f (a0 : ByteArray) : Option (ByteArray) := if a0.toList = ([83, 85, 78] : List UInt8) then (some (⟨#[48]⟩ : ByteArray)) else (if a0.toList = ([77, 79, 78] : List UInt8) then (some (⟨#[49]⟩ : ByteArray)) else (if a0.toList = ([84, 85, 69] : List UInt8) then (some (⟨#[50]⟩ : ByteArray)) else (if a0.toList = ([87, 69, 68] : List UInt8) then (some (⟨#[51]⟩ : ByteArray)) else (if a0.toList = ([84, 72, 85] : List UInt8) then (some (⟨#[52]⟩ : ByteArray)) else (if a0.toList = ([70, 82, 73] : List UInt8) then (some (⟨#[53]⟩ : ByteArray)) else (if a0.toList = ([83, 65, 84] : List UInt8) then (some (⟨#[54]⟩ : ByteArray)) else (if a0.toList = ([74, 65, 78] : List UInt8) then (some (⟨#[49]⟩ : ByteArray)) else (if a0.toList = ([70, 69, 66] : List UInt8) then (some (⟨#[50]⟩ : ByteArray)) else (if a0.toList = ([77, 65, 82] : List UInt8) then (some (⟨#[51]⟩ : ByteArray)) else (if a0.toList = ([65, 80, 82] : List UInt8) then (some (⟨#[52]⟩ : ByteArray)) else (if a0.toList = ([77, 65, 89] : List UInt8) then (some (⟨#[53]⟩ : ByteArray)) else (if a0.toList = ([74, 85, 78] : List UInt8) then (some (⟨#[54]⟩ : ByteArray)) else (if a0.toList = ([74, 85, 76] : List UInt8) then (some (⟨#[55]⟩ : ByteArray)) else (if a0.toList = ([65, 85, 71] : List UInt8) then (some (⟨#[56]⟩ : ByteArray)) else (if a0.toList = ([83, 69, 80] : List UInt8) then (some (⟨#[57]⟩ : ByteArray)) else (if a0.toList = ([79, 67, 84] : List UInt8) then (some (⟨#[49, 48]⟩ : ByteArray)) else (if a0.toList = ([78, 79, 86] : List UInt8) then (some (⟨#[49, 49]⟩ : ByteArray)) else (if a0.toList = ([68, 69, 67] : List UInt8) then (some (⟨#[49, 50]⟩ : ByteArray)) else (some (⟨#[]⟩ : ByteArray))))))))))))))))))))
set_option maxHeartbeats 8000000 in
set_option maxRecDepth 100000 in
theorem gronx_literal.calls (a0 : ByteArray) (r : ByteArray) (w : World) (h : gronx_literal.f a0 = some r) :
    Calls Tryz.prog 73 #[.string a0] w fun e w' => e = .returned (.string r) ∧ Drawn0 w w' := by
  have H : (if a0.toList = ([83, 85, 78] : List UInt8) then (some (⟨#[48]⟩ : ByteArray)) else (if a0.toList = ([77, 79, 78] : List UInt8) then (some (⟨#[49]⟩ : ByteArray)) else (if a0.toList = ([84, 85, 69] : List UInt8) then (some (⟨#[50]⟩ : ByteArray)) else (if a0.toList = ([87, 69, 68] : List UInt8) then (some (⟨#[51]⟩ : ByteArray)) else (if a0.toList = ([84, 72, 85] : List UInt8) then (some (⟨#[52]⟩ : ByteArray)) else (if a0.toList = ([70, 82, 73] : List UInt8) then (some (⟨#[53]⟩ : ByteArray)) else (if a0.toList = ([83, 65, 84] : List UInt8) then (some (⟨#[54]⟩ : ByteArray)) else (if a0.toList = ([74, 65, 78] : List UInt8) then (some (⟨#[49]⟩ : ByteArray)) else (if a0.toList = ([70, 69, 66] : List UInt8) then (some (⟨#[50]⟩ : ByteArray)) else (if a0.toList = ([77, 65, 82] : List UInt8) then (some (⟨#[51]⟩ : ByteArray)) else (if a0.toList = ([65, 80, 82] : List UInt8) then (some (⟨#[52]⟩ : ByteArray)) else (if a0.toList = ([77, 65, 89] : List UInt8) then (some (⟨#[53]⟩ : ByteArray)) else (if a0.toList = ([74, 85, 78] : List UInt8) then (some (⟨#[54]⟩ : ByteArray)) else (if a0.toList = ([74, 85, 76] : List UInt8) then (some (⟨#[55]⟩ : ByteArray)) else (if a0.toList = ([65, 85, 71] : List UInt8) then (some (⟨#[56]⟩ : ByteArray)) else (if a0.toList = ([83, 69, 80] : List UInt8) then (some (⟨#[57]⟩ : ByteArray)) else (if a0.toList = ([79, 67, 84] : List UInt8) then (some (⟨#[49, 48]⟩ : ByteArray)) else (if a0.toList = ([78, 79, 86] : List UInt8) then (some (⟨#[49, 49]⟩ : ByteArray)) else (if a0.toList = ([68, 69, 67] : List UInt8) then (some (⟨#[49, 50]⟩ : ByteArray)) else (some (⟨#[]⟩ : ByteArray))))))))))))))))))))) = some r := h
  clear h
  by_cases c2 : a0.toList = ([83, 85, 78] : List UInt8)
  · rw [if_pos c2] at H
    have c2b0 : (a0.toList == ([83, 85, 78] : List UInt8)) = true := beq_iff_eq.mpr c2
    have c2b1 : (a0.toList != ([83, 85, 78] : List UInt8)) = false := bne_eq_false_iff_eq.mpr c2
    clear c2
    obtain rfl := Option.some.inj H
    go_enter Tryz.func73, Tryz.ntmps73
    go_wp2
    go_ret
    exact ⟨by first | rfl | (simp; done) | (simp [*]; done), by repeat (first | exact Drawn0.refl _ | apply Drawn0.step)⟩
  · rw [if_neg c2] at H
    have c2b0 : (a0.toList == ([83, 85, 78] : List UInt8)) = false := beq_eq_false_iff_ne.mpr c2
    have c2b1 : (a0.toList != ([83, 85, 78] : List UInt8)) = true := bne_iff_ne.mpr c2
    by_cases c3 : a0.toList = ([77, 79, 78] : List UInt8)
    · rw [if_pos c3] at H
      have c3b0 : (a0.toList == ([77, 79, 78] : List UInt8)) = true := beq_iff_eq.mpr c3
      have c3b1 : (a0.toList != ([77, 79, 78] : List UInt8)) = false := bne_eq_false_iff_eq.mpr c3
      clear c3
      obtain rfl := Option.some.inj H
      go_enter Tryz.func73, Tryz.ntmps73
      go_wp2
      go_ret
      exact ⟨by first | rfl | (simp; done) | (simp [*]; done), by repeat (first | exact Drawn0.refl _ | apply Drawn0.step)⟩
    · rw [if_neg c3] at H
      have c3b0 : (a0.toList == ([77, 79, 78] : List UInt8)) = false := beq_eq_false_iff_ne.mpr c3
      have c3b1 : (a0.toList != ([77, 79, 78] : List UInt8)) = true := bne_iff_ne.mpr c3
      by_cases c4 : a0.toList = ([84, 85, 69] : List UInt8)
      · rw [if_pos c4] at H
        have c4b0 : (a0.toList == ([84, 85, 69] : List UInt8)) = true := beq_iff_eq.mpr c4
        have c4b1 : (a0.toList != ([84, 85, 69] : List UInt8)) = false := bne_eq_false_iff_eq.mpr c4
        clear c4
        obtain rfl := Option.some.inj H
        go_enter Tryz.func73, Tryz.ntmps73
        go_wp2
        go_ret
        exact ⟨by first | rfl | (simp; done) | (simp [*]; done), by repeat (first | exact Drawn0.refl _ | apply Drawn0.step)⟩
      · rw [if_neg c4] at H
        have c4b0 : (a0.toList == ([84, 85, 69] : List UInt8)) = false := beq_eq_false_iff_ne.mpr c4
        have c4b1 : (a0.toList != ([84, 85, 69] : List UInt8)) = true := bne_iff_ne.mpr c4
        by_cases c5 : a0.toList = ([87, 69, 68] : List UInt8)
        · rw [if_pos c5] at H
          have c5b0 : (a0.toList == ([87, 69, 68] : List UInt8)) = true := beq_iff_eq.mpr c5
          have c5b1 : (a0.toList != ([87, 69, 68] : List UInt8)) = false := bne_eq_false_iff_eq.mpr c5
          clear c5
          obtain rfl := Option.some.inj H
          go_enter Tryz.func73, Tryz.ntmps73
          go_wp2
          go_ret
          exact ⟨by first | rfl | (simp; done) | (simp [*]; done), by repeat (first | exact Drawn0.refl _ | apply Drawn0.step)⟩
        · rw [if_neg c5] at H
          have c5b0 : (a0.toList == ([87, 69, 68] : List UInt8)) = false := beq_eq_false_iff_ne.mpr c5
          have c5b1 : (a0.toList != ([87, 69, 68] : List UInt8)) = true := bne_iff_ne.mpr c5
          by_cases c6 : a0.toList = ([84, 72, 85] : List UInt8)
          · rw [if_pos c6] at H
            have c6b0 : (a0.toList == ([84, 72, 85] : List UInt8)) = true := beq_iff_eq.mpr c6
            have c6b1 : (a0.toList != ([84, 72, 85] : List UInt8)) = false := bne_eq_false_iff_eq.mpr c6
            clear c6
            obtain rfl := Option.some.inj H
            go_enter Tryz.func73, Tryz.ntmps73
            go_wp2
            go_ret
            exact ⟨by first | rfl | (simp; done) | (simp [*]; done), by repeat (first | exact Drawn0.refl _ | apply Drawn0.step)⟩
          · rw [if_neg c6] at H
            have c6b0 : (a0.toList == ([84, 72, 85] : List UInt8)) = false := beq_eq_false_iff_ne.mpr c6
            have c6b1 : (a0.toList != ([84, 72, 85] : List UInt8)) = true := bne_iff_ne.mpr c6
            by_cases c7 : a0.toList = ([70, 82, 73] : List UInt8)
            · rw [if_pos c7] at H
              have c7b0 : (a0.toList == ([70, 82, 73] : List UInt8)) = true := beq_iff_eq.mpr c7
              have c7b1 : (a0.toList != ([70, 82, 73] : List UInt8)) = false := bne_eq_false_iff_eq.mpr c7
              clear c7
              obtain rfl := Option.some.inj H
              go_enter Tryz.func73, Tryz.ntmps73
              go_wp2
              go_ret
              exact ⟨by first | rfl | (simp; done) | (simp [*]; done), by repeat (first | exact Drawn0.refl _ | apply Drawn0.step)⟩
            · rw [if_neg c7] at H
              have c7b0 : (a0.toList == ([70, 82, 73] : List UInt8)) = false := beq_eq_false_iff_ne.mpr c7
              have c7b1 : (a0.toList != ([70, 82, 73] : List UInt8)) = true := bne_iff_ne.mpr c7
              by_cases c8 : a0.toList = ([83, 65, 84] : List UInt8)
              · rw [if_pos c8] at H
                have c8b0 : (a0.toList == ([83, 65, 84] : List UInt8)) = true := beq_iff_eq.mpr c8
                have c8b1 : (a0.toList != ([83, 65, 84] : List UInt8)) = false := bne_eq_false_iff_eq.mpr c8
                clear c8
                obtain rfl := Option.some.inj H
                go_enter Tryz.func73, Tryz.ntmps73
                go_wp2
                go_ret
                exact ⟨by first | rfl | (simp; done) | (simp [*]; done), by repeat (first | exact Drawn0.refl _ | apply Drawn0.step)⟩
              · rw [if_neg c8] at H
                have c8b0 : (a0.toList == ([83, 65, 84] : List UInt8)) = false := beq_eq_false_iff_ne.mpr c8
                have c8b1 : (a0.toList != ([83, 65, 84] : List UInt8)) = true := bne_iff_ne.mpr c8
                by_cases c9 : a0.toList = ([74, 65, 78] : List UInt8)
                · rw [if_pos c9] at H
                  have c9b0 : (a0.toList == ([74, 65, 78] : List UInt8)) = true := beq_iff_eq.mpr c9
                  have c9b1 : (a0.toList != ([74, 65, 78] : List UInt8)) = false := bne_eq_false_iff_eq.mpr c9
                  clear c9
                  obtain rfl := Option.some.inj H
                  go_enter Tryz.func73, Tryz.ntmps73
                  go_wp2
                  go_ret
                  exact ⟨by first | rfl | (simp; done) | (simp [*]; done), by repeat (first | exact Drawn0.refl _ | apply Drawn0.step)⟩
                · rw [if_neg c9] at H
                  have c9b0 : (a0.toList == ([74, 65, 78] : List UInt8)) = false := beq_eq_false_iff_ne.mpr c9
                  have c9b1 : (a0.toList != ([74, 65, 78] : List UInt8)) = true := bne_iff_ne.mpr c9
                  by_cases c10 : a0.toList = ([70, 69, 66] : List UInt8)
                  · rw [if_pos c10] at H
                    have c10b0 : (a0.toList == ([70, 69, 66] : List UInt8)) = true := beq_iff_eq.mpr c10
                    have c10b1 : (a0.toList != ([70, 69, 66] : List UInt8)) = false := bne_eq_false_iff_eq.mpr c10
                    clear c10
                    obtain rfl := Option.some.inj H
                    go_enter Tryz.func73, Tryz.ntmps73
                    go_wp2
                    go_ret
                    exact ⟨by first | rfl | (simp; done) | (simp [*]; done), by repeat (first | exact Drawn0.refl _ | apply Drawn0.step)⟩
                  · rw [if_neg c10] at H
                    have c10b0 : (a0.toList == ([70, 69, 66] : List UInt8)) = false := beq_eq_false_iff_ne.mpr c10
                    have c10b1 : (a0.toList != ([70, 69, 66] : List UInt8)) = true := bne_iff_ne.mpr c10
                    by_cases c11 : a0.toList = ([77, 65, 82] : List UInt8)
                    · rw [if_pos c11] at H
                      have c11b0 : (a0.toList == ([77, 65, 82] : List UInt8)) = true := beq_iff_eq.mpr c11
                      have c11b1 : (a0.toList != ([77, 65, 82] : List UInt8)) = false := bne_eq_false_iff_eq.mpr c11
                      clear c11
                      obtain rfl := Option.some.inj H
                      go_enter Tryz.func73, Tryz.ntmps73
                      go_wp2
                      go_ret
                      exact ⟨by first | rfl | (simp; done) | (simp [*]; done), by repeat (first | exact Drawn0.refl _ | apply Drawn0.step)⟩
                    · rw [if_neg c11] at H
                      have c11b0 : (a0.toList == ([77, 65, 82] : List UInt8)) = false := beq_eq_false_iff_ne.mpr c11
                      have c11b1 : (a0.toList != ([77, 65, 82] : List UInt8)) = true := bne_iff_ne.mpr c11
                      by_cases c12 : a0.toList = ([65, 80, 82] : List UInt8)
                      · rw [if_pos c12] at H
                        have c12b0 : (a0.toList == ([65, 80, 82] : List UInt8)) = true := beq_iff_eq.mpr c12
                        have c12b1 : (a0.toList != ([65, 80, 82] : List UInt8)) = false := bne_eq_false_iff_eq.mpr c12
                        clear c12
                        obtain rfl := Option.some.inj H
                        go_enter Tryz.func73, Tryz.ntmps73
                        go_wp2
                        go_ret
                        exact ⟨by first | rfl | (simp; done) | (simp [*]; done), by repeat (first | exact Drawn0.refl _ | apply Drawn0.step)⟩
                      · rw [if_neg c12] at H
                        have c12b0 : (a0.toList == ([65, 80, 82] : List UInt8)) = false := beq_eq_false_iff_ne.mpr c12
                        have c12b1 : (a0.toList != ([65, 80, 82] : List UInt8)) = true := bne_iff_ne.mpr c12
                        by_cases c13 : a0.toList = ([77, 65, 89] : List UInt8)
                        · rw [if_pos c13] at H
                          have c13b0 : (a0.toList == ([77, 65, 89] : List UInt8)) = true := beq_iff_eq.mpr c13
                          have c13b1 : (a0.toList != ([77, 65, 89] : List UInt8)) = false := bne_eq_false_iff_eq.mpr c13
                          clear c13
                          obtain rfl := Option.some.inj H
                          go_enter Tryz.func73, Tryz.ntmps73
                          go_wp2
                          go_ret
                          exact ⟨by first | rfl | (simp; done) | (simp [*]; done), by repeat (first | exact Drawn0.refl _ | apply Drawn0.step)⟩
                        · rw [if_neg c13] at H
                          have c13b0 : (a0.toList == ([77, 65, 89] : List UInt8)) = false := beq_eq_false_iff_ne.mpr c13
                          have c13b1 : (a0.toList != ([77, 65, 89] : List UInt8)) = true := bne_iff_ne.mpr c13
                          by_cases c14 : a0.toList = ([74, 85, 78] : List UInt8)
                          · rw [if_pos c14] at H
                            have c14b0 : (a0.toList == ([74, 85, 78] : List UInt8)) = true := beq_iff_eq.mpr c14
                            have c14b1 : (a0.toList != ([74, 85, 78] : List UInt8)) = false := bne_eq_false_iff_eq.mpr c14
                            clear c14
                            obtain rfl := Option.some.inj H
                            go_enter Tryz.func73, Tryz.ntmps73
                            go_wp2
                            go_ret
                            exact ⟨by first | rfl | (simp; done) | (simp [*]; done), by repeat (first | exact Drawn0.refl _ | apply Drawn0.step)⟩
                          · rw [if_neg c14] at H
                            have c14b0 : (a0.toList == ([74, 85, 78] : List UInt8)) = false := beq_eq_false_iff_ne.mpr c14
                            have c14b1 : (a0.toList != ([74, 85, 78] : List UInt8)) = true := bne_iff_ne.mpr c14
                            by_cases c15 : a0.toList = ([74, 85, 76] : List UInt8)
                            · rw [if_pos c15] at H
                              have c15b0 : (a0.toList == ([74, 85, 76] : List UInt8)) = true := beq_iff_eq.mpr c15
                              have c15b1 : (a0.toList != ([74, 85, 76] : List UInt8)) = false := bne_eq_false_iff_eq.mpr c15
                              clear c15
                              obtain rfl := Option.some.inj H
                              go_enter Tryz.func73, Tryz.ntmps73
                              go_wp2
                              go_ret
                              exact ⟨by first | rfl | (simp; done) | (simp [*]; done), by repeat (first | exact Drawn0.refl _ | apply Drawn0.step)⟩
                            · rw [if_neg c15] at H
                              have c15b0 : (a0.toList == ([74, 85, 76] : List UInt8)) = false := beq_eq_false_iff_ne.mpr c15
                              have c15b1 : (a0.toList != ([74, 85, 76] : List UInt8)) = true := bne_iff_ne.mpr c15
                              by_cases c16 : a0.toList = ([65, 85, 71] : List UInt8)
                              · rw [if_pos c16] at H
                                have c16b0 : (a0.toList == ([65, 85, 71] : List UInt8)) = true := beq_iff_eq.mpr c16
                                have c16b1 : (a0.toList != ([65, 85, 71] : List UInt8)) = false := bne_eq_false_iff_eq.mpr c16
                                clear c16
                                obtain rfl := Option.some.inj H
                                go_enter Tryz.func73, Tryz.ntmps73
                                go_wp2
                                go_ret
                                exact ⟨by first | rfl | (simp; done) | (simp [*]; done), by repeat (first | exact Drawn0.refl _ | apply Drawn0.step)⟩
                              · rw [if_neg c16] at H
                                have c16b0 : (a0.toList == ([65, 85, 71] : List UInt8)) = false := beq_eq_false_iff_ne.mpr c16
                                have c16b1 : (a0.toList != ([65, 85, 71] : List UInt8)) = true := bne_iff_ne.mpr c16
                                by_cases c17 : a0.toList = ([83, 69, 80] : List UInt8)
                                · rw [if_pos c17] at H
                                  have c17b0 : (a0.toList == ([83, 69, 80] : List UInt8)) = true := beq_iff_eq.mpr c17
                                  have c17b1 : (a0.toList != ([83, 69, 80] : List UInt8)) = false := bne_eq_false_iff_eq.mpr c17
                                  clear c17
                                  obtain rfl := Option.some.inj H
                                  go_enter Tryz.func73, Tryz.ntmps73
                                  go_wp2
                                  go_ret
                                  exact ⟨by first | rfl | (simp; done) | (simp [*]; done), by repeat (first | exact Drawn0.refl _ | apply Drawn0.step)⟩
                                · rw [if_neg c17] at H
                                  have c17b0 : (a0.toList == ([83, 69, 80] : List UInt8)) = false := beq_eq_false_iff_ne.mpr c17
                                  have c17b1 : (a0.toList != ([83, 69, 80] : List UInt8)) = true := bne_iff_ne.mpr c17
                                  by_cases c18 : a0.toList = ([79, 67, 84] : List UInt8)
                                  · rw [if_pos c18] at H
                                    have c18b0 : (a0.toList == ([79, 67, 84] : List UInt8)) = true := beq_iff_eq.mpr c18
                                    have c18b1 : (a0.toList != ([79, 67, 84] : List UInt8)) = false := bne_eq_false_iff_eq.mpr c18
                                    clear c18
                                    obtain rfl := Option.some.inj H
                                    go_enter Tryz.func73, Tryz.ntmps73
                                    go_wp2
                                    go_ret
                                    exact ⟨by first | rfl | (simp; done) | (simp [*]; done), by repeat (first | exact Drawn0.refl _ | apply Drawn0.step)⟩
                                  · rw [if_neg c18] at H
                                    have c18b0 : (a0.toList == ([79, 67, 84] : List UInt8)) = false := beq_eq_false_iff_ne.mpr c18
                                    have c18b1 : (a0.toList != ([79, 67, 84] : List UInt8)) = true := bne_iff_ne.mpr c18
                                    by_cases c19 : a0.toList = ([78, 79, 86] : List UInt8)
                                    · rw [if_pos c19] at H
                                      have c19b0 : (a0.toList == ([78, 79, 86] : List UInt8)) = true := beq_iff_eq.mpr c19
                                      have c19b1 : (a0.toList != ([78, 79, 86] : List UInt8)) = false := bne_eq_false_iff_eq.mpr c19
                                      clear c19
                                      obtain rfl := Option.some.inj H
                                      go_enter Tryz.func73, Tryz.ntmps73
                                      go_wp2
                                      go_ret
                                      exact ⟨by first | rfl | (simp; done) | (simp [*]; done), by repeat (first | exact Drawn0.refl _ | apply Drawn0.step)⟩
                                    · rw [if_neg c19] at H
                                      have c19b0 : (a0.toList == ([78, 79, 86] : List UInt8)) = false := beq_eq_false_iff_ne.mpr c19
                                      have c19b1 : (a0.toList != ([78, 79, 86] : List UInt8)) = true := bne_iff_ne.mpr c19
                                      by_cases c20 : a0.toList = ([68, 69, 67] : List UInt8)
                                      · rw [if_pos c20] at H
                                        have c20b0 : (a0.toList == ([68, 69, 67] : List UInt8)) = true := beq_iff_eq.mpr c20
                                        have c20b1 : (a0.toList != ([68, 69, 67] : List UInt8)) = false := bne_eq_false_iff_eq.mpr c20
                                        clear c20
                                        obtain rfl := Option.some.inj H
                                        go_enter Tryz.func73, Tryz.ntmps73
                                        go_wp2
                                        go_ret
                                        exact ⟨by first | rfl | (simp; done) | (simp [*]; done), by repeat (first | exact Drawn0.refl _ | apply Drawn0.step)⟩
                                      · rw [if_neg c20] at H
                                        have c20b0 : (a0.toList == ([68, 69, 67] : List UInt8)) = false := beq_eq_false_iff_ne.mpr c20
                                        have c20b1 : (a0.toList != ([68, 69, 67] : List UInt8)) = true := bne_iff_ne.mpr c20
                                        obtain rfl := Option.some.inj H
                                        go_enter Tryz.func73, Tryz.ntmps73
                                        go_wp2
                                        go_ret
                                        exact ⟨by first | rfl | (simp; done) | (simp [*]; done), by repeat (first | exact Drawn0.refl _ | apply Drawn0.step)⟩
end Go.Proofs.YtemgofomhjabpaaGreatDoor.Core
namespace Go.Proofs.YtemgofomhjabpaaGreatDoor.Core
open Go.RowKit Go.Proofs.YtemgofomhjabpaaGreatDoorW.PrintWords Go.Proofs.YtemgofomhjabpaaGreatDoorW.PrintLast Go.Proofs.YtemgofomhjabpaaGreatDoorW.PrintMore
attribute [local go_sem] max2_int min2_int max_two min_two max_three min_three max_four min_four   -- for this text's walks alone
set_option linter.unusedVariables false
set_option linter.unusedSimpArgs false
def gronx_zzLiterals.l0 : Nat → ByteArray → List Int → Int → Option (ByteArray)
  | 0, _, _, _ => none
  | k + 1, x0, x3, x4 => if x4 < (x0.size : Int) then (if (wrap64 (x4 + 3)) ≤ (x0.size : Int) then (if 0 ≤ x4 then (if x4 ≤ (wrap64 (x4 + 3)) then ((gronx_literal.f (x0.extract (x4 : Int).toNat ((wrap64 (x4 + 3)) : Int).toNat)).bind fun t329 => (if t329.toList = ([] : List UInt8) then (if x3.length < 140737488355328 then (gronx_zzLiterals.l0 k x0 (x3 ++ [bt x0 x4]) (wrap64 (x4 + 1))) else (none)) else (if x3.length + t329.size < 140737488355328 then (gronx_zzLiterals.l0 k x0 (x3 ++ bytesOf t329) (wrap64 (x4 + 3))) else (none)))) else (none)) else (none)) else (if 0 ≤ x4 then (if x3.length < 140737488355328 then (gronx_zzLiterals.l0 k x0 (x3 ++ [bt x0 x4]) (wrap64 (x4 + 1))) else (none)) else (none))) else (some (strOfNums x3))
def gronx_zzLiterals.f (k : Nat) (a0 : ByteArray) : Option (ByteArray) := gronx_zzLiterals.l0 k a0 ([] : List Int) 0
set_option maxHeartbeats 8000000 in
set_option maxRecDepth 100000 in
theorem gronx_zzLiterals.calls (k : Nat) (a0 : ByteArray) (r : ByteArray) (w : World) (h : gronx_zzLiterals.f k a0 = some r) :
    Calls Tryz.prog 60 #[.string a0] w fun e w' => e = .returned (.string r) ∧ Below w.heap.size w w' := by
  have HB := Aside0.mk (Below.refl w.heap.size w)
  have H : (gronx_zzLiterals.l0 k a0 ([] : List Int) 0) = some r := h
  clear h
  have H' := Aside0.mk H
  clear H
  go_enter Tryz.func60, Tryz.ntmps60
  go_wp2
  go_loopg [3, 4] k (fun kq v3 v4 w' => ∃ (x3_1 : List Int) (x4_1 : Int), v4 = .int .i64 x4_1 ∧ Aside0 (gronx_zzLiterals.l0 kq a0 x3_1 x4_1 = some r) ∧ Aside0 (kq ≤ k) ∧ Aside0 (Kd.R (Kd.int .u8) 5 w' w.heap.size (fun _ => True) v3 x3_1) ∧ Aside0 (Below w.heap.size w w'))
  case atStart => exact ⟨(([] : List Int)), (0), (by first | rfl | (simp; done) | (simp [*]; done)), H', ⟨Nat.le_refl _⟩, ⟨by first | exact Kd.R_nil _ _ _ _ _ | exact Kd.N_nil _ _ _ _ _ | exact Kd.V_nil _ _ _ _ _ | exact Kd.Q_nil _ _ _ _ _ | exact Kd.S_nil _ _ _ _ _⟩, ⟨by repeat (first | (with_reducible first | exact HB.out | apply below_alloc | apply pw_below_drewN | apply below_drew1) | exact HB.out)⟩⟩
  case round =>
    clear H'
    obtain ⟨x3_1, x4_1, rfl, HA, HK1, HO_3, HB⟩ := hrel
    cases gk with
    | zero => exact absurd HA.out (by simp [gronx_zzLiterals.l0])
    | succ k1 =>
      have H := HA.out
      clear HA
      simp only [gronx_zzLiterals.l0] at H
      by_cases c2 : x4_1 < (a0.size : Int)
      · rw [if_pos c2] at H
        have c2b0 : decide (x4_1 < (a0.size : Int)) = true := decide_eq_true c2
        clear c2
        by_cases c3 : (wrap64 (x4_1 + 3)) ≤ (a0.size : Int)
        · rw [if_pos c3] at H
          have c3b0 : decide ((wrap64 (x4_1 + 3)) ≤ (a0.size : Int)) = true := decide_eq_true c3
          clear c3
          by_cases c4 : 0 ≤ x4_1
          · rw [if_pos c4] at H
            have c4b0 := eq_true c4
            have c4b1 : decide (0 ≤ x4_1) = true := decide_eq_true c4
            clear c4
            by_cases c5 : x4_1 ≤ (wrap64 (x4_1 + 3))
            · rw [if_pos c5] at H
              have c5b0 := eq_true c5
              have c5b1 : decide (x4_1 ≤ (wrap64 (x4_1 + 3))) = true := decide_eq_true c5
              have c6b0 := eq_true (of_decide_eq_true (by first | (with_reducible assumption) | assumption) : (wrap64 (x4_1 + 3)) ≤ (a0.size : Int))
              replace H := Option.bind_eq_some_iff.mp H
              obtain ⟨t329, A70, H⟩ := H
              replace H : (if t329.toList = ([] : List UInt8) then (if x3_1.length < 140737488355328 then (gronx_zzLiterals.l0 k1 a0 (x3_1 ++ [bt a0 x4_1]) (wrap64 (x4_1 + 1))) else (none)) else (if x3_1.length + t329.size < 140737488355328 then (gronx_zzLiterals.l0 k1 a0 (x3_1 ++ bytesOf t329) (wrap64 (x4_1 + 3))) else (none))) = some r := H
              have A7 := Aside0.mk A70
              clear A70
              by_cases c8 : t329.toList = ([] : List UInt8)
              · rw [if_pos c8] at H
                have c8b0 : (t329.toList == ([] : List UInt8)) = true := beq_iff_eq.mpr c8
                have c8b1 : (t329.toList != ([] : List UInt8)) = false := bne_eq_false_iff_eq.mpr c8
                clear c8
                by_cases c10 : x3_1.length < 140737488355328
                · rw [if_pos c10] at H
                  have LMc10 := Aside0.mk c10
                  clear c10
                  obtain ⟨y330, hy330⟩ : ∃ y_ : List Int, y_ = (x3_1 ++ [bt a0 x4_1]) := ⟨_, rfl⟩
                  replace H : (gronx_zzLiterals.l0 k1 a0 y330 (wrap64 (x4_1 + 1))) = some r := by first | (rw [hy330]; with_reducible exact H) | (have H2_ := (Option.bind_some _ _).symm.trans H; rw [hy330]; with_reducible exact H2_) | (have H2_ := (Option.bind_some _ _).symm.trans H; with_reducible exact H2_) | with_reducible exact H | (rw [hy330]; exact H) | exact H
                  have Ny330 := Aside0.mk hy330
                  clear hy330
                  have H' := Aside0.mk H
                  clear H
                  go_wp2_with (first | ((with_reducible refine gate_callee (f := 73) rfl ?_); refine goesL_ (some 20) rfl rfl Tryz.func73 (by kernel_rfl) rfl #[.string (a0.extract (x4_1 : Int).toNat ((wrap64 (x4_1 + 3)) : Int).toNat)] rfl (by (try simp only [List.map_toArray, List.map_cons, List.map_nil]); first | done | rfl | (simp only [List.length_drop, List.length_take]; rfl)) ?_; (with_reducible refine (gronx_literal.calls (a0.extract (x4_1 : Int).toNat ((wrap64 (x4_1 + 3)) : Int).toNat) t329 _ A7.out).mono ?_); rintro e w' ⟨rfl, ⟨nd, rfl⟩⟩; refine ⟨_, rfl, ?_⟩; have p9 : 0 ≤ (x4_1 : Int) := of_decide_eq_true (by first | (with_reducible assumption) | assumption); have q9 : x4_1 < (a0.size : Int) := of_decide_eq_true (by first | (with_reducible assumption) | assumption); have hx9 := bt_at a0 x4_1; replace p9 := eq_true p9; replace q9 := eq_true q9) | ((with_reducible refine gate_builtin (b := .append) (xs := #[.tmp 28, .tmp 32]) rfl ?_); at_builtin; refine Kd.R_append (Kd.int .u8) (w0 := w) w.heap.size rfl (.tmp 28) (.tmp 32) 137 5 (.int .u8 0) 1 rfl Tryz.underlying137 info5 rfl (by decide) (by omega) u3 x3_1 (bt a0 x4_1) [.int .u8 (bt a0 x4_1)] (fun _ => True) (fun _ => False) rfl rfl ?aP (fun _ hk => hk.elim) ?aF ?aO ?aB ?aS ?aL ?_; (case aP => exact rfl); (case aB => exact (by repeat (first | (with_reducible first | exact HB.out | apply below_alloc | apply pw_below_drewN | apply below_drew1) | exact HB.out))); (case aF => exact (fun _ _ => trivial)); (case aO => exact (by (with_reducible repeat (first | apply Kd.R_alloc | apply Kd.R_drewN | apply Kd.R_drew)); exact HO_3.out)); (case aS => exact (below_size (by repeat (first | (with_reducible first | exact HB.out | apply below_alloc | apply pw_below_drewN | apply below_drew1) | exact HB.out)))); (case aL => have := LMc10.out; omega); intro v331 w11 ho hb hg hat; rw [← Ny330.out] at ho; have n0_ := Aside0.mk (hb); have n1_ := Aside0.mk (ho); clear HB; clear HO_3; have HB := n0_; have HO332 := n1_; clear n0_ n1_; clear ho hb hg hat))
                  go_roundg k1
                  case measure => have := HK1.out; omega
                  case rel => exact ⟨(y330), (wrap64 (x4_1 + 1)), (by first | rfl | (simp; done) | (simp [*]; done)), H', ⟨by have := HK1.out; omega⟩, ⟨by (with_reducible repeat (first | apply Kd.R_alloc | apply Kd.R_drewN | apply Kd.R_drew)); exact HO332.out⟩, ⟨by repeat (first | (with_reducible first | exact HB.out | apply below_alloc | apply pw_below_drewN | apply below_drew1) | exact HB.out)⟩⟩
                · rw [if_neg c10] at H
                  exact absurd H (by simp)
              · rw [if_neg c8] at H
                have c8b0 : (t329.toList == ([] : List UInt8)) = false := beq_eq_false_iff_ne.mpr c8
                have c8b1 : (t329.toList != ([] : List UInt8)) = true := bne_iff_ne.mpr c8
                by_cases c12 : x3_1.length + t329.size < 140737488355328
                · rw [if_pos c12] at H
                  have LMc12 := Aside0.mk c12
                  clear c12
                  obtain ⟨y333, hy333⟩ : ∃ y_ : List Int, y_ = (x3_1 ++ bytesOf t329) := ⟨_, rfl⟩
                  replace H : (gronx_zzLiterals.l0 k1 a0 y333 (wrap64 (x4_1 + 3))) = some r := by first | (rw [hy333]; with_reducible exact H) | (have H2_ := (Option.bind_some _ _).symm.trans H; rw [hy333]; with_reducible exact H2_) | (have H2_ := (Option.bind_some _ _).symm.trans H; with_reducible exact H2_) | with_reducible exact H | (rw [hy333]; exact H) | exact H
                  have Ny333 := Aside0.mk hy333
                  clear hy333
                  have H' := Aside0.mk H
                  clear H
                  go_wp2_with (first | ((with_reducible refine gate_callee (f := 73) rfl ?_); refine goesL_ (some 20) rfl rfl Tryz.func73 (by kernel_rfl) rfl #[.string (a0.extract (x4_1 : Int).toNat ((wrap64 (x4_1 + 3)) : Int).toNat)] rfl (by (try simp only [List.map_toArray, List.map_cons, List.map_nil]); first | done | rfl | (simp only [List.length_drop, List.length_take]; rfl)) ?_; (with_reducible refine (gronx_literal.calls (a0.extract (x4_1 : Int).toNat ((wrap64 (x4_1 + 3)) : Int).toNat) t329 _ A7.out).mono ?_); rintro e w' ⟨rfl, ⟨nd, rfl⟩⟩; refine ⟨_, rfl, ?_⟩) | (at_builtin; refine print_append_str (w0 := w) w.heap.size rfl (.tmp 23) _ 137 9 5 rfl Tryz.underlying137 Tryz.underlying9 info5 u3 x3_1 t329 rfl rfl ?aO ?aB ?aS ?aL ?_; (case aB => exact (by repeat (first | (with_reducible first | exact HB.out | apply below_alloc | apply pw_below_drewN | apply below_drew1) | exact HB.out))); (case aO => exact (Kd.own_of_R (by (with_reducible repeat (first | apply Kd.R_alloc | apply Kd.R_drewN | apply Kd.R_drew)); exact HO_3.out))); (case aS => exact (below_size (by repeat (first | (with_reducible first | exact HB.out | apply below_alloc | apply pw_below_drewN | apply below_drew1) | exact HB.out)))); (case aL => have := LMc12.out; omega); intro v334 w13 ho0 hb hg; have ho := Kd.R_of_own (h1 := fun _ => rfl) (ok := fun _ => True) ho0 (fun _ _ => trivial); clear ho0; have hat := True.intro; rw [← Ny333.out] at ho; change Kd.R (Kd.int .u8) 5 w13 w.heap.size (fun _ => True) v334 y333 at ho; have n0_ := Aside0.mk (hb); have n1_ := Aside0.mk (ho); clear HB; clear HO_3; have HB := n0_; have HO335 := n1_; clear n0_ n1_; clear ho hb hg hat))
                  go_roundg k1
                  case measure => have := HK1.out; omega
                  case rel => exact ⟨(y333), (wrap64 (x4_1 + 3)), (by first | rfl | (simp; done) | (simp [*]; done)), H', ⟨by have := HK1.out; omega⟩, ⟨by (with_reducible repeat (first | apply Kd.R_alloc | apply Kd.R_drewN | apply Kd.R_drew)); exact HO335.out⟩, ⟨by repeat (first | (with_reducible first | exact HB.out | apply below_alloc | apply pw_below_drewN | apply below_drew1) | exact HB.out)⟩⟩
                · rw [if_neg c12] at H
                  exact absurd H (by simp)
            · rw [if_neg c5] at H
              exact absurd H (by simp)
          · rw [if_neg c4] at H
            exact absurd H (by simp)
        · rw [if_neg c3] at H
          have c3b0 : decide ((wrap64 (x4_1 + 3)) ≤ (a0.size : Int)) = false := decide_eq_false c3
          clear c3
          by_cases c14 : 0 ≤ x4_1
          · rw [if_pos c14] at H
            have c14b0 : decide (0 ≤ x4_1) = true := decide_eq_true c14
            clear c14
            by_cases c16 : x3_1.length < 140737488355328
            · rw [if_pos c16] at H
              have LMc16 := Aside0.mk c16
              clear c16
              obtain ⟨y336, hy336⟩ : ∃ y_ : List Int, y_ = (x3_1 ++ [bt a0 x4_1]) := ⟨_, rfl⟩
              replace H : (gronx_zzLiterals.l0 k1 a0 y336 (wrap64 (x4_1 + 1))) = some r := by first | (rw [hy336]; with_reducible exact H) | (have H2_ := (Option.bind_some _ _).symm.trans H; rw [hy336]; with_reducible exact H2_) | (have H2_ := (Option.bind_some _ _).symm.trans H; with_reducible exact H2_) | with_reducible exact H | (rw [hy336]; exact H) | exact H
              have Ny336 := Aside0.mk hy336
              clear hy336
              have H' := Aside0.mk H
              clear H
              have p15 : 0 ≤ (x4_1 : Int) := of_decide_eq_true (by first | (with_reducible assumption) | assumption)
              have q15 : x4_1 < (a0.size : Int) := of_decide_eq_true (by first | (with_reducible assumption) | assumption)
              have hx15 := bt_at a0 x4_1
              replace p15 := eq_true p15
              replace q15 := eq_true q15
              go_wp2_with (first | ((with_reducible refine gate_builtin (b := .append) (xs := #[.tmp 28, .tmp 32]) rfl ?_); at_builtin; refine Kd.R_append (Kd.int .u8) (w0 := w) w.heap.size rfl (.tmp 28) (.tmp 32) 137 5 (.int .u8 0) 1 rfl Tryz.underlying137 info5 rfl (by decide) (by omega) u3 x3_1 (bt a0 x4_1) [.int .u8 (bt a0 x4_1)] (fun _ => True) (fun _ => False) rfl rfl ?aP (fun _ hk => hk.elim) ?aF ?aO ?aB ?aS ?aL ?_; (case aP => exact rfl); (case aB => exact (by repeat (first | (with_reducible first | exact HB.out | apply below_alloc | apply pw_below_drewN | apply below_drew1) | exact HB.out))); (case aF => exact (fun _ _ => trivial)); (case aO => exact (by (with_reducible repeat (first | apply Kd.R_alloc | apply Kd.R_drewN | apply Kd.R_drew)); exact HO_3.out)); (case aS => exact (below_size (by repeat (first | (with_reducible first | exact HB.out | apply below_alloc | apply pw_below_drewN | apply below_drew1) | exact HB.out)))); (case aL => have := LMc16.out; omega); intro v337 w17 ho hb hg hat; rw [← Ny336.out] at ho; have n0_ := Aside0.mk (hb); have n1_ := Aside0.mk (ho); clear HB; clear HO_3; have HB := n0_; have HO338 := n1_; clear n0_ n1_; clear ho hb hg hat))
              go_roundg k1
              case measure => have := HK1.out; omega
              case rel => exact ⟨(y336), (wrap64 (x4_1 + 1)), (by first | rfl | (simp; done) | (simp [*]; done)), H', ⟨by have := HK1.out; omega⟩, ⟨by (with_reducible repeat (first | apply Kd.R_alloc | apply Kd.R_drewN | apply Kd.R_drew)); exact HO338.out⟩, ⟨by repeat (first | (with_reducible first | exact HB.out | apply below_alloc | apply pw_below_drewN | apply below_drew1) | exact HB.out)⟩⟩
            · rw [if_neg c16] at H
              exact absurd H (by simp)
          · rw [if_neg c14] at H
            exact absurd H (by simp)
      · rw [if_neg c2] at H
        have c2b0 : decide (x4_1 < (a0.size : Int)) = false := decide_eq_false c2
        clear c2
        obtain rfl := Option.some.inj H
        have hcv18 := own_string (P := Tryz.prog) Tryz.underlying137 Tryz.underlying5 Tryz.underlying9 (Kd.own_of_R HO_3.out)
        go_wp2
        go_ret
        exact ⟨by first | rfl | (simp [errW_none, errW_some] <;> rfl) | (simp [*, errW_none, errW_some] <;> rfl), by repeat (first | (with_reducible first | exact HB.out | apply below_alloc | apply pw_below_drewN | apply below_drew1) | exact HB.out)⟩
end Go.Proofs.YtemgofomhjabpaaGreatDoor.Core
namespace Go.Proofs.YtemgofomhjabpaaGreatDoor.Core
open Go.RowKit Go.Proofs.YtemgofomhjabpaaGreatDoorW.PrintWords Go.Proofs.YtemgofomhjabpaaGreatDoorW.PrintLast Go.Proofs.YtemgofomhjabpaaGreatDoorW.PrintMore
attribute [local go_sem] max2_int min2_int max_two min_two max_three min_three max_four min_four   -- for this text's walks alone
set_option linter.unusedVariables false
set_option linter.unusedSimpArgs false
def gronx_zzIndex.l0 : Nat → ByteArray → ByteArray → Int → Option (Int)
  | 0, _, _, _ => none
  | k + 1, x0, x1, x5 => if (wrap64 (x5 + (x1.size : Int))) ≤ (x0.size : Int) then (if 0 ≤ x5 then (if x5 ≤ (wrap64 (x5 + (x1.size : Int))) then (if (x0.extract (x5 : Int).toNat ((wrap64 (x5 + (x1.size : Int))) : Int).toNat).toList = x1.toList then (some x5) else (gronx_zzIndex.l0 k x0 x1 (wrap64 (x5 + 1)))) else (none)) else (none)) else (some (-1))
def gronx_zzIndex.f (k : Nat) (a0 : ByteArray) (a1 : ByteArray) : Option (Int) := gronx_zzIndex.l0 k a0 a1 0
set_option maxHeartbeats 8000000 in
set_option maxRecDepth 100000 in
theorem gronx_zzIndex.calls (k : Nat) (a0 : ByteArray) (a1 : ByteArray) (r : Int) (w : World) (h : gronx_zzIndex.f k a0 a1 = some r) :
    Calls Tryz.prog 50 #[.string a0, .string a1] w fun e w' => e = .returned (.int .i64 r) ∧ Drawn0 w w' := by
  have H : (gronx_zzIndex.l0 k a0 a1 0) = some r := h
  clear h
  have H' := Aside0.mk H
  clear H
  go_enter Tryz.func50, Tryz.ntmps50
  go_wp2
  go_loopg [5] k (fun kq v5 w' => ∃ (x5_1 : Int), v5 = .int .i64 x5_1 ∧ Aside0 (gronx_zzIndex.l0 kq a0 a1 x5_1 = some r) ∧ Aside0 (kq ≤ k) ∧ Drawn0 w w')
  case atStart => exact ⟨(0), (by first | rfl | (simp; done) | (simp [*]; done)), H', ⟨Nat.le_refl _⟩, by repeat (first | exact Drawn0.refl _ | apply Drawn0.step)⟩
  case round =>
    clear H'
    try clear p2
    obtain ⟨x5_1, rfl, HA, HK1, ⟨m1, rfl⟩⟩ := hrel
    cases gk with
    | zero => exact absurd HA.out (by simp [gronx_zzIndex.l0])
    | succ k1 =>
      have H := HA.out
      clear HA
      simp only [gronx_zzIndex.l0] at H
      by_cases c3 : (wrap64 (x5_1 + (a1.size : Int))) ≤ (a0.size : Int)
      · rw [if_pos c3] at H
        have c3b0 : decide ((wrap64 (x5_1 + (a1.size : Int))) ≤ (a0.size : Int)) = true := decide_eq_true c3
        clear c3
        by_cases c4 : 0 ≤ x5_1
        · rw [if_pos c4] at H
          have c4b0 := eq_true c4
          have c4b1 : decide (0 ≤ x5_1) = true := decide_eq_true c4
          clear c4
          by_cases c5 : x5_1 ≤ (wrap64 (x5_1 + (a1.size : Int)))
          · rw [if_pos c5] at H
            have c5b0 := eq_true c5
            have c5b1 : decide (x5_1 ≤ (wrap64 (x5_1 + (a1.size : Int)))) = true := decide_eq_true c5
            have c6b0 := eq_true (of_decide_eq_true (by first | (with_reducible assumption) | assumption) : (wrap64 (x5_1 + (a1.size : Int))) ≤ (a0.size : Int))
            by_cases c7 : (a0.extract (x5_1 : Int).toNat ((wrap64 (x5_1 + (a1.size : Int))) : Int).toNat).toList = a1.toList
            · rw [if_pos c7] at H
              have c7b0 : ((a0.extract (x5_1 : Int).toNat ((wrap64 (x5_1 + (a1.size : Int))) : Int).toNat).toList == a1.toList) = true := beq_iff_eq.mpr c7
              have c7b1 : ((a0.extract (x5_1 : Int).toNat ((wrap64 (x5_1 + (a1.size : Int))) : Int).toNat).toList != a1.toList) = false := bne_eq_false_iff_eq.mpr c7
              clear c7
              obtain rfl := Option.some.inj H
              go_wp2
              go_ret
              exact ⟨by first | rfl | (simp; done) | (simp [*]; done), by repeat (first | exact Drawn0.refl _ | apply Drawn0.step)⟩
            · rw [if_neg c7] at H
              have c7b0 : ((a0.extract (x5_1 : Int).toNat ((wrap64 (x5_1 + (a1.size : Int))) : Int).toNat).toList == a1.toList) = false := beq_eq_false_iff_ne.mpr c7
              have c7b1 : ((a0.extract (x5_1 : Int).toNat ((wrap64 (x5_1 + (a1.size : Int))) : Int).toNat).toList != a1.toList) = true := bne_iff_ne.mpr c7
              have H' := Aside0.mk H
              clear H
              go_wp2
              go_roundg k1
              case measure => have := HK1.out; omega
              case rel => exact ⟨(wrap64 (x5_1 + 1)), (by first | rfl | (simp; done) | (simp [*]; done)), H', ⟨by have := HK1.out; omega⟩, by repeat (first | exact Drawn0.refl _ | apply Drawn0.step)⟩
          · rw [if_neg c5] at H
            exact absurd H (by simp)
        · rw [if_neg c4] at H
          exact absurd H (by simp)
      · rw [if_neg c3] at H
        have c3b0 : decide ((wrap64 (x5_1 + (a1.size : Int))) ≤ (a0.size : Int)) = false := decide_eq_false c3
        clear c3
        obtain rfl := Option.some.inj H
        go_wp2
        go_ret
        exact ⟨by first | rfl | (simp; done) | (simp [*]; done), by repeat (first | exact Drawn0.refl _ | apply Drawn0.step)⟩
end Go.Proofs.YtemgofomhjabpaaGreatDoor.Core
namespace Go.Proofs.YtemgofomhjabpaaGreatDoor.Core
open Go.RowKit Go.Proofs.YtemgofomhjabpaaGreatDoorW.PrintWords Go.Proofs.YtemgofomhjabpaaGreatDoorW.PrintLast Go.Proofs.YtemgofomhjabpaaGreatDoorW.PrintMore
attribute [local go_sem] max2_int min2_int max_two min_two max_three min_three max_four min_four   -- for this text's walks alone
set_option linter.unusedVariables false
set_option linter.unusedSimpArgs false
def gronx_zzSplit.l0 : Nat → ByteArray → ByteArray → List ByteArray → Option (List ByteArray)
  | 0, _, _, _ => none
  | k + 1, x0, x1, x5 => (gronx_zzIndex.f k x0 x1).bind fun t339 => (if t339 < 0 then (if x5.length < 8796093022208 then (some (x5 ++ [x0])) else (none)) else (if 0 ≤ t339 then (if t339 ≤ (x0.size : Int) then (if x5.length < 8796093022208 then (if 0 ≤ (wrap64 (t339 + (x1.size : Int))) then (if (wrap64 (t339 + (x1.size : Int))) ≤ (x0.size : Int) then (gronx_zzSplit.l0 k (x0.extract ((wrap64 (t339 + (x1.size : Int))) : Int).toNat x0.size) x1 (x5 ++ [x0.extract 0 (t339 : Int).toNat])) else (none)) else (none)) else (none)) else (none)) else (none)))
def gronx_zzSplit.f (k : Nat) (a0 : ByteArray) (a1 : ByteArray) : Option (List ByteArray) := gronx_zzSplit.l0 k a0 a1 ([] : List ByteArray)
set_option maxHeartbeats 8000000 in
set_option maxRecDepth 100000 in
theorem gronx_zzSplit.calls (k : Nat) (a0 : ByteArray) (a1 : ByteArray) (r : List ByteArray) (w : World) (h : gronx_zzSplit.f k a0 a1 = some r) :
    Calls Tryz.prog 62 #[.string a0, .string a1] w fun e w' => ∃ v0_ : Value, e = .returned (v0_) ∧ Kd.R Kd.string 9 w' w.heap.size (fun _ => True) v0_ r ∧ Below w.heap.size w w' := by
  have HB := Aside0.mk (Below.refl w.heap.size w)
  have H : (gronx_zzSplit.l0 k a0 a1 ([] : List ByteArray)) = some r := h
  clear h
  have H' := Aside0.mk H
  clear H
  go_enter Tryz.func62, Tryz.ntmps62
  go_wp2
  go_loopg [0, 5] k (fun kq v0 v5 w' => ∃ (x0_1 : ByteArray) (x5_1 : List ByteArray), v0 = .string x0_1 ∧ Aside0 (gronx_zzSplit.l0 kq x0_1 a1 x5_1 = some r) ∧ Aside0 (kq ≤ k) ∧ Aside0 (Kd.R Kd.string 9 w' w.heap.size (fun _ => True) v5 x5_1) ∧ Aside0 (Below w.heap.size w w'))
  case atStart => exact ⟨(a0), (([] : List ByteArray)), (by first | rfl | (simp; done) | (simp [*]; done)), H', ⟨Nat.le_refl _⟩, ⟨by first | exact Kd.R_nil _ _ _ _ _ | exact Kd.N_nil _ _ _ _ _ | exact Kd.V_nil _ _ _ _ _ | exact Kd.Q_nil _ _ _ _ _ | exact Kd.S_nil _ _ _ _ _⟩, ⟨by repeat (first | (with_reducible first | exact HB.out | apply below_alloc | apply pw_below_drewN | apply below_drew1) | exact HB.out)⟩⟩
  case round =>
    clear H'
    try clear p2
    obtain ⟨x0_1, x5_1, rfl, HA, HK1, HO_5, HB⟩ := hrel
    cases gk with
    | zero => exact absurd HA.out (by simp [gronx_zzSplit.l0])
    | succ k1 =>
      have H := HA.out
      clear HA
      simp only [gronx_zzSplit.l0] at H
      replace H := Option.bind_eq_some_iff.mp H
      obtain ⟨t339, A30, H⟩ := H
      replace H : (if t339 < 0 then (if x5_1.length < 8796093022208 then (some (x5_1 ++ [x0_1])) else (none)) else (if 0 ≤ t339 then (if t339 ≤ (x0_1.size : Int) then (if x5_1.length < 8796093022208 then (if 0 ≤ (wrap64 (t339 + (a1.size : Int))) then (if (wrap64 (t339 + (a1.size : Int))) ≤ (x0_1.size : Int) then (gronx_zzSplit.l0 k1 (x0_1.extract ((wrap64 (t339 + (a1.size : Int))) : Int).toNat x0_1.size) a1 (x5_1 ++ [x0_1.extract 0 (t339 : Int).toNat])) else (none)) else (none)) else (none)) else (none)) else (none))) = some r := H
      have A3 := Aside0.mk A30
      clear A30
      by_cases c4 : t339 < 0
      · rw [if_pos c4] at H
        have c4b0 : decide (t339 < 0) = true := decide_eq_true c4
        clear c4
        by_cases c5 : x5_1.length < 8796093022208
        · rw [if_pos c5] at H
          have LMc5 := Aside0.mk c5
          clear c5
          obtain ⟨y340, hy340⟩ : ∃ y_ : List ByteArray, y_ = (x5_1 ++ [x0_1]) := ⟨_, rfl⟩
          replace H : (some y340) = some r := by first | (rw [hy340]; with_reducible exact H) | (have H2_ := (Option.bind_some _ _).symm.trans H; rw [hy340]; with_reducible exact H2_) | (have H2_ := (Option.bind_some _ _).symm.trans H; with_reducible exact H2_) | with_reducible exact H | (rw [hy340]; exact H) | exact H
          have Ny340 := Aside0.mk hy340
          clear hy340
          obtain rfl := Option.some.inj H
          go_wp2_with (first | ((with_reducible refine gate_callee (f := 50) rfl ?_); refine goesL_ (some 9) rfl rfl Tryz.func50 (by kernel_rfl) rfl #[.string x0_1, .string a1] rfl (by (try simp only [List.map_toArray, List.map_cons, List.map_nil]); first | done | rfl | (simp only [List.length_drop, List.length_take]; rfl)) ?_; (with_reducible refine (gronx_zzIndex.calls k1 x0_1 a1 t339 _ A3.out).mono ?_); rintro e w' ⟨rfl, ⟨nd, rfl⟩⟩; refine ⟨_, rfl, ?_⟩) | ((with_reducible refine gate_builtin (b := .append) (xs := #[.tmp 12, .tmp 14]) rfl ?_); at_builtin; refine Kd.R_append Kd.string (w0 := w) w.heap.size rfl (.tmp 12) (.tmp 14) 55 9 (.string ⟨#[]⟩) 16 rfl Tryz.underlying55 info9 rfl (by decide) (by omega) u5 x5_1 x0_1 [.string x0_1] (fun _ => True) (fun _ => False) rfl rfl ?aP (fun _ hk => hk.elim) ?aF ?aO ?aB ?aS ?aL ?_; (case aP => exact rfl); (case aB => exact (by repeat (first | (with_reducible first | exact HB.out | apply below_alloc | apply pw_below_drewN | apply below_drew1) | exact HB.out))); (case aF => exact (fun _ _ => trivial)); (case aO => exact (by (with_reducible repeat (first | apply Kd.R_alloc | apply Kd.R_drewN | apply Kd.R_drew)); exact HO_5.out)); (case aS => exact (below_size (by repeat (first | (with_reducible first | exact HB.out | apply below_alloc | apply pw_below_drewN | apply below_drew1) | exact HB.out)))); (case aL => have := LMc5.out; omega); intro v341 w6 ho hb hg hat; rw [← Ny340.out] at ho; have n0_ := Aside0.mk (hb); have n1_ := Aside0.mk (ho); clear HB; clear HO_5; have HB := n0_; have HO342 := n1_; clear n0_ n1_; clear ho hb hg hat))
          go_ret
          exact ⟨_, by first | rfl | (simp [errW_none, errW_some] <;> rfl) | (simp [*, errW_none, errW_some] <;> rfl), by (with_reducible repeat (first | apply Kd.R_alloc | apply Kd.R_drewN | apply Kd.R_drew)); exact HO342.out, by repeat (first | (with_reducible first | exact HB.out | apply below_alloc | apply pw_below_drewN | apply below_drew1) | exact HB.out)⟩
        · rw [if_neg c5] at H
          exact absurd H (by simp)
      · rw [if_neg c4] at H
        have c4b0 : decide (t339 < 0) = false := decide_eq_false c4
        clear c4
        by_cases c7 : 0 ≤ t339
        · rw [if_pos c7] at H
          have c7b0 := eq_true c7
          have c7b1 : decide (0 ≤ t339) = true := decide_eq_true c7
          clear c7
          by_cases c8 : t339 ≤ (x0_1.size : Int)
          · rw [if_pos c8] at H
            have c8b0 := eq_true c8
            have c8b1 : decide (t339 ≤ (x0_1.size : Int)) = true := decide_eq_true c8
            clear c8
            by_cases c9 : x5_1.length < 8796093022208
            · rw [if_pos c9] at H
              have LMc9 := Aside0.mk c9
              clear c9
              obtain ⟨y343, hy343⟩ : ∃ y_ : List ByteArray, y_ = (x5_1 ++ [x0_1.extract 0 (t339 : Int).toNat]) := ⟨_, rfl⟩
              replace H : (if 0 ≤ (wrap64 (t339 + (a1.size : Int))) then (if (wrap64 (t339 + (a1.size : Int))) ≤ (x0_1.size : Int) then (gronx_zzSplit.l0 k1 (x0_1.extract ((wrap64 (t339 + (a1.size : Int))) : Int).toNat x0_1.size) a1 y343) else (none)) else (none)) = some r := by first | (rw [hy343]; with_reducible exact H) | (have H2_ := (Option.bind_some _ _).symm.trans H; rw [hy343]; with_reducible exact H2_) | (have H2_ := (Option.bind_some _ _).symm.trans H; with_reducible exact H2_) | with_reducible exact H | (rw [hy343]; exact H) | exact H
              have Ny343 := Aside0.mk hy343
              clear hy343
              obtain ⟨ji10, hji10⟩ : ∃ j_ : Int, (wrap64 (t339 + (a1.size : Int))) = j_ := ⟨_, rfl⟩
              replace H : (if 0 ≤ (ji10) then (if (ji10) ≤ (x0_1.size : Int) then (gronx_zzSplit.l0 k1 (x0_1.extract ((ji10) : Int).toNat x0_1.size) a1 y343) else (none)) else (none)) = some r := by first | (rw [hji10] at H; exact H) | (simp only [hji10] at H ⊢; exact H)
              (try rw [hji10] at A3)
              have hji10w : (IntKind.i64.wrap (t339 + (a1.size : Int))) = ji10 := (i64_w _).trans hji10
              by_cases c11 : 0 ≤ (ji10)
              · rw [if_pos c11] at H
                have c11b0 := eq_true c11
                have c11b1 : decide (0 ≤ (ji10)) = true := decide_eq_true c11
                clear c11
                by_cases c12 : (ji10) ≤ (x0_1.size : Int)
                · rw [if_pos c12] at H
                  have c12b0 := eq_true c12
                  have c12b1 : decide ((ji10) ≤ (x0_1.size : Int)) = true := decide_eq_true c12
                  clear c12
                  have H' := Aside0.mk H
                  clear H
                  go_wp2_with (first | ((with_reducible refine gate_callee (f := 50) rfl ?_); refine goesL_ (some 9) rfl rfl Tryz.func50 (by kernel_rfl) rfl #[.string x0_1, .string a1] rfl (by (try simp only [List.map_toArray, List.map_cons, List.map_nil]); first | done | rfl | (simp only [List.length_drop, List.length_take]; rfl)) ?_; (with_reducible refine (gronx_zzIndex.calls k1 x0_1 a1 t339 _ A3.out).mono ?_); rintro e w' ⟨rfl, ⟨nd, rfl⟩⟩; refine ⟨_, rfl, ?_⟩) | ((with_reducible refine gate_builtin (b := .append) (xs := #[.tmp 16, .tmp 20]) rfl ?_); at_builtin; refine Kd.R_append Kd.string (w0 := w) w.heap.size rfl (.tmp 16) (.tmp 20) 55 9 (.string ⟨#[]⟩) 16 rfl Tryz.underlying55 info9 rfl (by decide) (by omega) u5 x5_1 (x0_1.extract 0 (t339 : Int).toNat) [.string (x0_1.extract 0 (t339 : Int).toNat)] (fun _ => True) (fun _ => False) rfl rfl ?aP (fun _ hk => hk.elim) ?aF ?aO ?aB ?aS ?aL ?_; (case aP => exact rfl); (case aB => exact (by repeat (first | (with_reducible first | exact HB.out | apply below_alloc | apply pw_below_drewN | apply below_drew1) | exact HB.out))); (case aF => exact (fun _ _ => trivial)); (case aO => exact (by (with_reducible repeat (first | apply Kd.R_alloc | apply Kd.R_drewN | apply Kd.R_drew)); exact HO_5.out)); (case aS => exact (below_size (by repeat (first | (with_reducible first | exact HB.out | apply below_alloc | apply pw_below_drewN | apply below_drew1) | exact HB.out)))); (case aL => have := LMc9.out; omega); intro v344 w13 ho hb hg hat; rw [← Ny343.out] at ho; have n0_ := Aside0.mk (hb); have n1_ := Aside0.mk (ho); clear HB; clear HO_5; have HB := n0_; have HO345 := n1_; clear n0_ n1_; clear ho hb hg hat))
                  go_roundg k1
                  case measure => have := HK1.out; omega
                  case rel => exact ⟨(x0_1.extract ((ji10) : Int).toNat x0_1.size), (y343), (by first | rfl | (simp; done) | (simp only [← hji10] <;> (first | rfl | simp)) | (simp [*]; done)), H', ⟨by have := HK1.out; omega⟩, ⟨by (with_reducible repeat (first | apply Kd.R_alloc | apply Kd.R_drewN | apply Kd.R_drew)); exact HO345.out⟩, ⟨by repeat (first | (with_reducible first | exact HB.out | apply below_alloc | apply pw_below_drewN | apply below_drew1) | exact HB.out)⟩⟩
                · rw [if_neg c12] at H
                  exact absurd H (by simp)
              · rw [if_neg c11] at H
                exact absurd H (by simp)
            · rw [if_neg c9] at H
              exact absurd H (by simp)
          · rw [if_neg c8] at H
            exact absurd H (by simp)
        · rw [if_neg c7] at H
          exact absurd H (by simp)
end Go.Proofs.YtemgofomhjabpaaGreatDoor.Core
namespace Go.Proofs.YtemgofomhjabpaaGreatDoor.Core
open Go.RowKit Go.Proofs.YtemgofomhjabpaaGreatDoorW.PrintWords Go.Proofs.YtemgofomhjabpaaGreatDoorW.PrintLast Go.Proofs.YtemgofomhjabpaaGreatDoorW.PrintMore
attribute [local go_sem] max2_int min2_int max_two min_two max_three min_three max_four min_four   -- for this text's walks alone
set_option linter.unusedVariables false
set_option linter.unusedSimpArgs false
def gronx_zzReplaceAll.l0 : Nat → ByteArray → ByteArray → ByteArray → List Int → Option (ByteArray)
  | 0, _, _, _, _ => none
  | k + 1, x0, x1, x2, x7 => (gronx_zzIndex.f k x0 x1).bind fun t346 => (if t346 < 0 then (if x7.length + x0.size < 140737488355328 then (some (strOfNums (x7 ++ bytesOf x0))) else (none)) else (if 0 ≤ t346 then (if t346 ≤ (x0.size : Int) then (if x7.length + (x0.extract 0 (t346 : Int).toNat).size < 140737488355328 then ((some (x7 ++ bytesOf (x0.extract 0 (t346 : Int).toNat) : List Int)).bind fun y350 => (if y350.length + x2.size < 140737488355328 then (if 0 ≤ (wrap64 (t346 + (x1.size : Int))) then (if (wrap64 (t346 + (x1.size : Int))) ≤ (x0.size : Int) then (gronx_zzReplaceAll.l0 k (x0.extract ((wrap64 (t346 + (x1.size : Int))) : Int).toNat x0.size) x1 x2 (y350 ++ bytesOf x2)) else (none)) else (none)) else (none))) else (none)) else (none)) else (none)))
def gronx_zzReplaceAll.f (k : Nat) (a0 : ByteArray) (a1 : ByteArray) (a2 : ByteArray) : Option (ByteArray) := gronx_zzReplaceAll.l0 k a0 a1 a2 ([] : List Int)
set_option maxHeartbeats 8000000 in
set_option maxRecDepth 100000 in
theorem gronx_zzReplaceAll.calls (k : Nat) (a0 : ByteArray) (a1 : ByteArray) (a2 : ByteArray) (r : ByteArray) (w : World) (h : gronx_zzReplaceAll.f k a0 a1 a2 = some r) :
    Calls Tryz.prog 63 #[.string a0, .string a1, .string a2] w fun e w' => e = .returned (.string r) ∧ Below w.heap.size w w' := by
  have HB := Aside0.mk (Below.refl w.heap.size w)
  have H : (gronx_zzReplaceAll.l0 k a0 a1 a2 ([] : List Int)) = some r := h
  clear h
  have H' := Aside0.mk H
  clear H
  go_enter Tryz.func63, Tryz.ntmps63
  go_wp2
  go_loopg [0, 7] k (fun kq v0 v7 w' => ∃ (x0_1 : ByteArray) (x7_1 : List Int), v0 = .string x0_1 ∧ Aside0 (gronx_zzReplaceAll.l0 kq x0_1 a1 a2 x7_1 = some r) ∧ Aside0 (kq ≤ k) ∧ Aside0 (Kd.R (Kd.int .u8) 5 w' w.heap.size (fun _ => True) v7 x7_1) ∧ Aside0 (Below w.heap.size w w'))
  case atStart => exact ⟨(a0), (([] : List Int)), (by first | rfl | (simp; done) | (simp [*]; done)), H', ⟨Nat.le_refl _⟩, ⟨by first | exact Kd.R_nil _ _ _ _ _ | exact Kd.N_nil _ _ _ _ _ | exact Kd.V_nil _ _ _ _ _ | exact Kd.Q_nil _ _ _ _ _ | exact Kd.S_nil _ _ _ _ _⟩, ⟨by repeat (first | (with_reducible first | exact HB.out | apply below_alloc | apply pw_below_drewN | apply below_drew1) | exact HB.out)⟩⟩
  case round =>
    clear H'
    try clear p2
    obtain ⟨x0_1, x7_1, rfl, HA, HK1, HO_7, HB⟩ := hrel
    cases gk with
    | zero => exact absurd HA.out (by simp [gronx_zzReplaceAll.l0])
    | succ k1 =>
      have H := HA.out
      clear HA
      simp only [gronx_zzReplaceAll.l0] at H
      replace H := Option.bind_eq_some_iff.mp H
      obtain ⟨t346, A40, H⟩ := H
      replace H : (if t346 < 0 then (if x7_1.length + x0_1.size < 140737488355328 then (some (strOfNums (x7_1 ++ bytesOf x0_1))) else (none)) else (if 0 ≤ t346 then (if t346 ≤ (x0_1.size : Int) then (if x7_1.length + (x0_1.extract 0 (t346 : Int).toNat).size < 140737488355328 then ((some (x7_1 ++ bytesOf (x0_1.extract 0 (t346 : Int).toNat) : List Int)).bind fun y350 => (if y350.length + a2.size < 140737488355328 then (if 0 ≤ (wrap64 (t346 + (a1.size : Int))) then (if (wrap64 (t346 + (a1.size : Int))) ≤ (x0_1.size : Int) then (gronx_zzReplaceAll.l0 k1 (x0_1.extract ((wrap64 (t346 + (a1.size : Int))) : Int).toNat x0_1.size) a1 a2 (y350 ++ bytesOf a2)) else (none)) else (none)) else (none))) else (none)) else (none)) else (none))) = some r := H
      have A4 := Aside0.mk A40
      clear A40
      by_cases c5 : t346 < 0
      · rw [if_pos c5] at H
        have c5b0 : decide (t346 < 0) = true := decide_eq_true c5
        clear c5
        by_cases c6 : x7_1.length + x0_1.size < 140737488355328
        · rw [if_pos c6] at H
          have LMc6 := Aside0.mk c6
          clear c6
          obtain ⟨y347, hy347⟩ : ∃ y_ : List Int, y_ = (x7_1 ++ bytesOf x0_1) := ⟨_, rfl⟩
          replace H : (some (strOfNums y347)) = some r := by first | (rw [hy347]; with_reducible exact H) | (have H2_ := (Option.bind_some _ _).symm.trans H; rw [hy347]; with_reducible exact H2_) | (have H2_ := (Option.bind_some _ _).symm.trans H; with_reducible exact H2_) | with_reducible exact H | (rw [hy347]; exact H) | exact H
          have Ny347 := Aside0.mk hy347
          clear hy347
          obtain rfl := Option.some.inj H
          go_wp2_with (first | ((with_reducible refine gate_callee (f := 50) rfl ?_); refine goesL_ (some 11) rfl rfl Tryz.func50 (by kernel_rfl) rfl #[.string x0_1, .string a1] rfl (by (try simp only [List.map_toArray, List.map_cons, List.map_nil]); first | done | rfl | (simp only [List.length_drop, List.length_take]; rfl)) ?_; (with_reducible refine (gronx_zzIndex.calls k1 x0_1 a1 t346 _ A4.out).mono ?_); rintro e w' ⟨rfl, ⟨nd, rfl⟩⟩; refine ⟨_, rfl, ?_⟩) | (at_builtin; refine print_append_str (w0 := w) w.heap.size rfl (.tmp 14) _ 137 9 5 rfl Tryz.underlying137 Tryz.underlying9 info5 u7 x7_1 x0_1 rfl rfl ?aO ?aB ?aS ?aL ?_; (case aB => exact (by repeat (first | (with_reducible first | exact HB.out | apply below_alloc | apply pw_below_drewN | apply below_drew1) | exact HB.out))); (case aO => exact (Kd.own_of_R (by (with_reducible repeat (first | apply Kd.R_alloc | apply Kd.R_drewN | apply Kd.R_drew)); exact HO_7.out))); (case aS => exact (below_size (by repeat (first | (with_reducible first | exact HB.out | apply below_alloc | apply pw_below_drewN | apply below_drew1) | exact HB.out)))); (case aL => have := LMc6.out; omega); intro v348 w7 ho0 hb hg; have ho := Kd.R_of_own (h1 := fun _ => rfl) (ok := fun _ => True) ho0 (fun _ _ => trivial); clear ho0; have hat := True.intro; rw [← Ny347.out] at ho; change Kd.R (Kd.int .u8) 5 w7 w.heap.size (fun _ => True) v348 y347 at ho; have n0_ := Aside0.mk (hb); have n1_ := Aside0.mk (ho); clear HB; clear HO_7; have HB := n0_; have HO349 := n1_; clear n0_ n1_; clear ho hb hg hat; have hcv8 := own_string (P := Tryz.prog) Tryz.underlying137 Tryz.underlying5 Tryz.underlying9 (Kd.own_of_R HO349.out)))
          go_ret
          exact ⟨by first | rfl | (simp [errW_none, errW_some] <;> rfl) | (simp [*, errW_none, errW_some] <;> rfl), by repeat (first | (with_reducible first | exact HB.out | apply below_alloc | apply pw_below_drewN | apply below_drew1) | exact HB.out)⟩
        · rw [if_neg c6] at H
          exact absurd H (by simp)
      · rw [if_neg c5] at H
        have c5b0 : decide (t346 < 0) = false := decide_eq_false c5
        clear c5
        by_cases c9 : 0 ≤ t346
        · rw [if_pos c9] at H
          have c9b0 := eq_true c9
          have c9b1 : decide (0 ≤ t346) = true := decide_eq_true c9
          clear c9
          by_cases c10 : t346 ≤ (x0_1.size : Int)
          · rw [if_pos c10] at H
            have c10b0 := eq_true c10
            have c10b1 : decide (t346 ≤ (x0_1.size : Int)) = true := decide_eq_true c10
            clear c10
            by_cases c11 : x7_1.length + (x0_1.extract 0 (t346 : Int).toNat).size < 140737488355328
            · rw [if_pos c11] at H
              have LMc11 := Aside0.mk c11
              clear c11
              obtain ⟨y350, hy350⟩ : ∃ y_ : List Int, y_ = (x7_1 ++ bytesOf (x0_1.extract 0 (t346 : Int).toNat)) := ⟨_, rfl⟩
              replace H : (if y350.length + a2.size < 140737488355328 then (if 0 ≤ (wrap64 (t346 + (a1.size : Int))) then (if (wrap64 (t346 + (a1.size : Int))) ≤ (x0_1.size : Int) then (gronx_zzReplaceAll.l0 k1 (x0_1.extract ((wrap64 (t346 + (a1.size : Int))) : Int).toNat x0_1.size) a1 a2 (y350 ++ bytesOf a2)) else (none)) else (none)) else (none)) = some r := by first | (rw [hy350]; with_reducible exact H) | (have H2_ := (Option.bind_some _ _).symm.trans H; rw [hy350]; with_reducible exact H2_) | (have H2_ := (Option.bind_some _ _).symm.trans H; with_reducible exact H2_) | with_reducible exact H | (rw [hy350]; exact H) | exact H
              have Ny350 := Aside0.mk hy350
              clear hy350
              by_cases c12 : y350.length + a2.size < 140737488355328
              · rw [if_pos c12] at H
                have LMc12 := Aside0.mk c12
                clear c12
                obtain ⟨y353, hy353⟩ : ∃ y_ : List Int, y_ = (y350 ++ bytesOf a2) := ⟨_, rfl⟩
                replace H : (if 0 ≤ (wrap64 (t346 + (a1.size : Int))) then (if (wrap64 (t346 + (a1.size : Int))) ≤ (x0_1.size : Int) then (gronx_zzReplaceAll.l0 k1 (x0_1.extract ((wrap64 (t346 + (a1.size : Int))) : Int).toNat x0_1.size) a1 a2 y353) else (none)) else (none)) = some r := by first | (rw [hy353]; with_reducible exact H) | (have H2_ := (Option.bind_some _ _).symm.trans H; rw [hy353]; with_reducible exact H2_) | (have H2_ := (Option.bind_some _ _).symm.trans H; with_reducible exact H2_) | with_reducible exact H | (rw [hy353]; exact H) | exact H
                have Ny353 := Aside0.mk hy353
                clear hy353
                obtain ⟨ji13, hji13⟩ : ∃ j_ : Int, (wrap64 (t346 + (a1.size : Int))) = j_ := ⟨_, rfl⟩
                replace H : (if 0 ≤ (ji13) then (if (ji13) ≤ (x0_1.size : Int) then (gronx_zzReplaceAll.l0 k1 (x0_1.extract ((ji13) : Int).toNat x0_1.size) a1 a2 y353) else (none)) else (none)) = some r := by first | (rw [hji13] at H; exact H) | (simp only [hji13] at H ⊢; exact H)
                (try rw [hji13] at A4)
                have hji13w : (IntKind.i64.wrap (t346 + (a1.size : Int))) = ji13 := (i64_w _).trans hji13
                by_cases c14 : 0 ≤ (ji13)
                · rw [if_pos c14] at H
                  have c14b0 := eq_true c14
                  have c14b1 : decide (0 ≤ (ji13)) = true := decide_eq_true c14
                  clear c14
                  by_cases c15 : (ji13) ≤ (x0_1.size : Int)
                  · rw [if_pos c15] at H
                    have c15b0 := eq_true c15
                    have c15b1 : decide ((ji13) ≤ (x0_1.size : Int)) = true := decide_eq_true c15
                    clear c15
                    have H' := Aside0.mk H
                    clear H
                    go_wp2_with (first | ((with_reducible refine gate_callee (f := 50) rfl ?_); refine goesL_ (some 11) rfl rfl Tryz.func50 (by kernel_rfl) rfl #[.string x0_1, .string a1] rfl (by (try simp only [List.map_toArray, List.map_cons, List.map_nil]); first | done | rfl | (simp only [List.length_drop, List.length_take]; rfl)) ?_; (with_reducible refine (gronx_zzIndex.calls k1 x0_1 a1 t346 _ A4.out).mono ?_); rintro e w' ⟨rfl, ⟨nd, rfl⟩⟩; refine ⟨_, rfl, ?_⟩) | (at_builtin; refine print_append_str (w0 := w) w.heap.size rfl (.tmp 18) _ 137 9 5 rfl Tryz.underlying137 Tryz.underlying9 info5 u7 x7_1 (x0_1.extract 0 (t346 : Int).toNat) rfl rfl ?aO ?aB ?aS ?aL ?_; (case aB => exact (by repeat (first | (with_reducible first | exact HB.out | apply below_alloc | apply pw_below_drewN | apply below_drew1) | exact HB.out))); (case aO => exact (Kd.own_of_R (by (with_reducible repeat (first | apply Kd.R_alloc | apply Kd.R_drewN | apply Kd.R_drew)); exact HO_7.out))); (case aS => exact (below_size (by repeat (first | (with_reducible first | exact HB.out | apply below_alloc | apply pw_below_drewN | apply below_drew1) | exact HB.out)))); (case aL => have := LMc11.out; omega); intro v351 w16 ho0 hb hg; have ho := Kd.R_of_own (h1 := fun _ => rfl) (ok := fun _ => True) ho0 (fun _ _ => trivial); clear ho0; have hat := True.intro; rw [← Ny350.out] at ho; change Kd.R (Kd.int .u8) 5 w16 w.heap.size (fun _ => True) v351 y350 at ho; have n0_ := Aside0.mk (hb); have n1_ := Aside0.mk (ho); clear HB; clear HO_7; have HB := n0_; have HO352 := n1_; clear n0_ n1_; clear ho hb hg hat) | (at_builtin; refine print_append_str (w0 := w) w.heap.size rfl (.tmp 22) _ 137 9 5 rfl Tryz.underlying137 Tryz.underlying9 info5 v351 y350 a2 rfl rfl ?aO ?aB ?aS ?aL ?_; (case aB => exact (by repeat (first | (with_reducible first | exact HB.out | apply below_alloc | apply pw_below_drewN | apply below_drew1) | exact HB.out))); (case aO => exact (Kd.own_of_R (by (with_reducible repeat (first | apply Kd.R_alloc | apply Kd.R_drewN | apply Kd.R_drew)); exact HO352.out))); (case aS => exact (below_size (by repeat (first | (with_reducible first | exact HB.out | apply below_alloc | apply pw_below_drewN | apply below_drew1) | exact HB.out)))); (case aL => have := LMc12.out; omega); intro v354 w17 ho0 hb hg; have ho := Kd.R_of_own (h1 := fun _ => rfl) (ok := fun _ => True) ho0 (fun _ _ => trivial); clear ho0; have hat := True.intro; rw [← Ny353.out] at ho; change Kd.R (Kd.int .u8) 5 w17 w.heap.size (fun _ => True) v354 y353 at ho; have n0_ := Aside0.mk (hb); have n1_ := Aside0.mk (ho); clear HB; clear HO352; have HB := n0_; have HO355 := n1_; clear n0_ n1_; clear ho hb hg hat))
                    go_roundg k1
                    case measure => have := HK1.out; omega
                    case rel => exact ⟨(x0_1.extract ((ji13) : Int).toNat x0_1.size), (y353), (by first | rfl | (simp; done) | (simp only [← hji13] <;> (first | rfl | simp)) | (simp [*]; done)), H', ⟨by have := HK1.out; omega⟩, ⟨by (with_reducible repeat (first | apply Kd.R_alloc | apply Kd.R_drewN | apply Kd.R_drew)); exact HO355.out⟩, ⟨by repeat (first | (with_reducible first | exact HB.out | apply below_alloc | apply pw_below_drewN | apply below_drew1) | exact HB.out)⟩⟩
                  · rw [if_neg c15] at H
                    exact absurd H (by simp)
                · rw [if_neg c14] at H
                  exact absurd H (by simp)
              · rw [if_neg c12] at H
                exact absurd H (by simp)
            · rw [if_neg c11] at H
              exact absurd H (by simp)
          · rw [if_neg c10] at H
            exact absurd H (by simp)
        · rw [if_neg c9] at H
          exact absurd H (by simp)
end Go.Proofs.YtemgofomhjabpaaGreatDoor.Core
namespace Go.Proofs
open Go.Shelf
def Tryz.lays158_ren : Go.Shelf.Ren := ⟨fun | 158 => 61 | 165 => 64 | 166 => 65 | 167 => 70 | 169 => 66 | 230 => 71 | 203 => 74 | 240 => 75 | 241 => 76 | 197 => 79 | 118 => 80 | 168 => 81 | 270 => 82 | 262 => 83 | 276 => 84 | 277 => 85 | 260 => 86 | 242 => 87 | 313 => 88 | 278 => 89 | 274 => 90 | 275 => 91 | n => n, fun | 9 => 9 | 4 => 4 | 3 => 3 | 5 => 5 | 72 => 139 | 0 => 0 | 76 => 141 | 75 => 71 | 107 => 154 | 70 => 136 | 20 => 20 | 37 => 137 | 127 => 155 | 21 => 21 | 105 => 158 | 164 => 163 | 162 => 169 | 203 => 167 | 119 => 170 | 46 => 145 | 139 => 173 | 138 => 172 | 51 => 144 | 160 => 174 | 208 => 180 | 206 => 178 | 80 => 143 | n => n, fun | 13 => 0 | 3 => 2 | 4 => 3 | n => n⟩
theorem Tryz.lays158 : Go.Proofs.Lays.n158 Tryz.prog Tryz.lays158_ren := {
  mixed := by kernel_rfl
  f118 := Tryz.func80.trans (congrArg some (by kernel_rfl))
  f158 := Tryz.func61.trans (congrArg some (by kernel_rfl))
  f165 := Tryz.func64.trans (congrArg some (by kernel_rfl))
  f166 := Tryz.func65.trans (congrArg some (by kernel_rfl))
  f167 := Tryz.func70.trans (congrArg some (by kernel_rfl))
  f168 := Tryz.func81.trans (congrArg some (by kernel_rfl))
  f169 := Tryz.func66.trans (congrArg some (by kernel_rfl))
  f197 := Tryz.func79.trans (congrArg some (by kernel_rfl))
  f203 := Tryz.func74.trans (congrArg some (by kernel_rfl))
  f230 := Tryz.func71.trans (congrArg some (by kernel_rfl))
  f240 := Tryz.func75.trans (congrArg some (by kernel_rfl))
  f241 := Tryz.func76.trans (congrArg some (by kernel_rfl))
  f242 := Tryz.func87.trans (congrArg some (by kernel_rfl))
  f260 := Tryz.func86.trans (congrArg some (by kernel_rfl))
  f262 := Tryz.func83.trans (congrArg some (by kernel_rfl))
  f270 := Tryz.func82.trans (congrArg some (by kernel_rfl))
  f274 := Tryz.func90.trans (congrArg some (by kernel_rfl))
  f275 := Tryz.func91.trans (congrArg some (by kernel_rfl))
  f276 := Tryz.func84.trans (congrArg some (by kernel_rfl))
  f277 := Tryz.func85.trans (congrArg some (by kernel_rfl))
  f278 := Tryz.func89.trans (congrArg some (by kernel_rfl))
  f313 := Tryz.func88.trans (congrArg some (by kernel_rfl))
  t0 := Tryz.underlying0
  a0 := Tryz.isAgg0
  z0 := Tryz.sizeOf0
  v0 := Tryz.zeroValue0
  t3 := Tryz.underlying3
  a3 := Tryz.isAgg3
  z3 := Tryz.sizeOf3
  v3 := Tryz.zeroValue3
  t4 := Tryz.underlying4
  a4 := Tryz.isAgg4
  z4 := Tryz.sizeOf4
  v4 := Tryz.zeroValue4
  t5 := Tryz.underlying5
  a5 := Tryz.isAgg5
  z5 := Tryz.sizeOf5
  v5 := Tryz.zeroValue5
  t9 := Tryz.underlying9
  a9 := Tryz.isAgg9
  z9 := Tryz.sizeOf9
  v9 := Tryz.zeroValue9
  t20 := Tryz.underlying20
  a20 := Tryz.isAgg20
  z20 := Tryz.sizeOf20
  v20 := Tryz.zeroValue20
  t21 := Tryz.underlying21
  a21 := Tryz.isAgg21
  z21 := Tryz.sizeOf21
  v21 := Tryz.zeroValue21
  t37 := Tryz.underlying137
  a37 := Tryz.isAgg137
  z37 := Tryz.sizeOf137
  v37 := Tryz.zeroValue137
  t46 := Tryz.underlying145
  a46 := Tryz.isAgg145
  z46 := Tryz.sizeOf145
  v46 := Tryz.zeroValue145
  t51 := Tryz.underlying144
  a51 := Tryz.isAgg144
  z51 := Tryz.sizeOf144
  v51 := Tryz.zeroValue144
  t70 := Tryz.underlying136
  a70 := Tryz.isAgg136
  z70 := Tryz.sizeOf136
  v70 := Tryz.zeroValue136
  t72 := Tryz.underlying139
  a72 := Tryz.isAgg139
  z72 := Tryz.sizeOf139
  v72 := Tryz.zeroValue139
  t75 := Tryz.underlying71
  a75 := Tryz.isAgg71
  z75 := Tryz.sizeOf71
  v75 := Tryz.zeroValue71
  t76 := Tryz.underlying141
  a76 := Tryz.isAgg141
  z76 := Tryz.sizeOf141
  v76 := Tryz.zeroValue141
  t105 := Tryz.underlying158
  a105 := Tryz.isAgg158
  z105 := Tryz.sizeOf158
  v105 := Tryz.zeroValue158
  t107 := Tryz.underlying154
  a107 := Tryz.isAgg154
  z107 := Tryz.sizeOf154
  v107 := Tryz.zeroValue154
  t119 := Tryz.underlying170
  a119 := Tryz.isAgg170
  z119 := Tryz.sizeOf170
  t127 := Tryz.underlying155
  a127 := Tryz.isAgg155
  z127 := Tryz.sizeOf155
  v127 := Tryz.zeroValue155
  t138 := Tryz.underlying172
  a138 := Tryz.isAgg172
  z138 := Tryz.sizeOf172
  v138 := Tryz.zeroValue172
  t139 := Tryz.underlying173
  a139 := Tryz.isAgg173
  z139 := Tryz.sizeOf173
  v139 := Tryz.zeroValue173
  t160 := Tryz.underlying174
  a160 := Tryz.isAgg174
  z160 := Tryz.sizeOf174
  v160 := Tryz.zeroValue174
  t162 := Tryz.underlying169
  a162 := Tryz.isAgg169
  z162 := Tryz.sizeOf169
  v162 := Tryz.zeroValue169
  t164 := Tryz.underlying163
  a164 := Tryz.isAgg163
  z164 := Tryz.sizeOf163
  v164 := Tryz.zeroValue163
  t203 := Tryz.underlying167
  a203 := Tryz.isAgg167
  z203 := Tryz.sizeOf167
  v203 := Tryz.zeroValue167
  t206 := Tryz.underlying178
  a206 := Tryz.isAgg178
  z206 := Tryz.sizeOf178
  v206 := Tryz.zeroValue178
  t208 := Tryz.underlying180
  a208 := Tryz.isAgg180
  z208 := Tryz.sizeOf180
  v208 := Tryz.zeroValue180
  g3 := by kernel_rfl
  g4 := by kernel_rfl
  g13 := by kernel_rfl }
theorem Tryz.Builder_Extra_158 : Builder.Extra Tryz.prog Tryz.lays158_ren := {
  sizeBuilder := by kernel_rfl
  liesBuilder := by kernel_rfl
  t5 := Tryz.underlying5
  a5 := Tryz.isAgg5
  z5 := Tryz.sizeOf5
  v5 := Tryz.zeroValue5
  infoByte := by kernel_rfl
  cellsByte := by kernel_rfl
  sizeByte := by kernel_rfl
  neB5 := by decide }
open Go.RowKit in
theorem Tryz.strings_ToUpper_ascii (s : ByteArray) (w : World) (hs : s.size ≤ 140737488355328) (hascii : ∀ (j : Nat) (b : UInt8), s.data.toList[j]? = some b → b.toNat < 128) :
    Calls Tryz.prog 61 #[.string s] w fun e w' => e = .returned (.string ⟨(Lib.toUpperA s.data.toList).toArray⟩) ∧ Below w.heap.size w w' := Any.strings_ToUpper_ascii Tryz.lays158 Tryz.Builder_Extra_158 s w hs hascii
def Tryz.lays159_ren : Go.Shelf.Ren := ⟨fun | 159 => 58 | 165 => 64 | 166 => 65 | 167 => 70 | 169 => 66 | 230 => 71 | 204 => 72 | 240 => 75 | 241 => 76 | 197 => 79 | 118 => 80 | 168 => 81 | 270 => 82 | 262 => 83 | 276 => 84 | 277 => 85 | 260 => 86 | 242 => 87 | 313 => 88 | 278 => 89 | 274 => 90 | 275 => 91 | n => n, fun | 9 => 9 | 4 => 4 | 3 => 3 | 5 => 5 | 72 => 139 | 0 => 0 | 76 => 141 | 75 => 71 | 107 => 154 | 70 => 136 | 20 => 20 | 37 => 137 | 127 => 155 | 21 => 21 | 105 => 158 | 164 => 163 | 162 => 169 | 203 => 167 | 119 => 170 | 46 => 145 | 139 => 173 | 138 => 172 | 51 => 144 | 160 => 174 | 208 => 180 | 206 => 178 | 80 => 143 | n => n, fun | 13 => 0 | 3 => 2 | 4 => 3 | n => n⟩
theorem Tryz.lays159 : Go.Proofs.Lays.n159 Tryz.prog Tryz.lays159_ren := {
  mixed := by kernel_rfl
  f118 := Tryz.func80.trans (congrArg some (by kernel_rfl))
  f159 := Tryz.func58.trans (congrArg some (by kernel_rfl))
  f165 := Tryz.func64.trans (congrArg some (by kernel_rfl))
  f166 := Tryz.func65.trans (congrArg some (by kernel_rfl))
  f167 := Tryz.func70.trans (congrArg some (by kernel_rfl))
  f168 := Tryz.func81.trans (congrArg some (by kernel_rfl))
  f169 := Tryz.func66.trans (congrArg some (by kernel_rfl))
  f197 := Tryz.func79.trans (congrArg some (by kernel_rfl))
  f204 := Tryz.func72.trans (congrArg some (by kernel_rfl))
  f230 := Tryz.func71.trans (congrArg some (by kernel_rfl))
  f240 := Tryz.func75.trans (congrArg some (by kernel_rfl))
  f241 := Tryz.func76.trans (congrArg some (by kernel_rfl))
  f242 := Tryz.func87.trans (congrArg some (by kernel_rfl))
  f260 := Tryz.func86.trans (congrArg some (by kernel_rfl))
  f262 := Tryz.func83.trans (congrArg some (by kernel_rfl))
  f270 := Tryz.func82.trans (congrArg some (by kernel_rfl))
  f274 := Tryz.func90.trans (congrArg some (by kernel_rfl))
  f275 := Tryz.func91.trans (congrArg some (by kernel_rfl))
  f276 := Tryz.func84.trans (congrArg some (by kernel_rfl))
  f277 := Tryz.func85.trans (congrArg some (by kernel_rfl))
  f278 := Tryz.func89.trans (congrArg some (by kernel_rfl))
  f313 := Tryz.func88.trans (congrArg some (by kernel_rfl))
  t0 := Tryz.underlying0
  a0 := Tryz.isAgg0
  z0 := Tryz.sizeOf0
  v0 := Tryz.zeroValue0
  t3 := Tryz.underlying3
  a3 := Tryz.isAgg3
  z3 := Tryz.sizeOf3
  v3 := Tryz.zeroValue3
  t4 := Tryz.underlying4
  a4 := Tryz.isAgg4
  z4 := Tryz.sizeOf4
  v4 := Tryz.zeroValue4
  t5 := Tryz.underlying5
  a5 := Tryz.isAgg5
  z5 := Tryz.sizeOf5
  v5 := Tryz.zeroValue5
  t9 := Tryz.underlying9
  a9 := Tryz.isAgg9
  z9 := Tryz.sizeOf9
  v9 := Tryz.zeroValue9
  t20 := Tryz.underlying20
  a20 := Tryz.isAgg20
  z20 := Tryz.sizeOf20
  v20 := Tryz.zeroValue20
  t21 := Tryz.underlying21
  a21 := Tryz.isAgg21
  z21 := Tryz.sizeOf21
  v21 := Tryz.zeroValue21
  t37 := Tryz.underlying137
  a37 := Tryz.isAgg137
  z37 := Tryz.sizeOf137
  v37 := Tryz.zeroValue137
  t46 := Tryz.underlying145
  a46 := Tryz.isAgg145
  z46 := Tryz.sizeOf145
  v46 := Tryz.zeroValue145
  t51 := Tryz.underlying144
  a51 := Tryz.isAgg144
  z51 := Tryz.sizeOf144
  v51 := Tryz.zeroValue144
  t70 := Tryz.underlying136
  a70 := Tryz.isAgg136
  z70 := Tryz.sizeOf136
  v70 := Tryz.zeroValue136
  t72 := Tryz.underlying139
  a72 := Tryz.isAgg139
  z72 := Tryz.sizeOf139
  v72 := Tryz.zeroValue139
  t75 := Tryz.underlying71
  a75 := Tryz.isAgg71
  z75 := Tryz.sizeOf71
  v75 := Tryz.zeroValue71
  t76 := Tryz.underlying141
  a76 := Tryz.isAgg141
  z76 := Tryz.sizeOf141
  v76 := Tryz.zeroValue141
  t105 := Tryz.underlying158
  a105 := Tryz.isAgg158
  z105 := Tryz.sizeOf158
  v105 := Tryz.zeroValue158
  t107 := Tryz.underlying154
  a107 := Tryz.isAgg154
  z107 := Tryz.sizeOf154
  v107 := Tryz.zeroValue154
  t119 := Tryz.underlying170
  a119 := Tryz.isAgg170
  z119 := Tryz.sizeOf170
  t127 := Tryz.underlying155
  a127 := Tryz.isAgg155
  z127 := Tryz.sizeOf155
  v127 := Tryz.zeroValue155
  t138 := Tryz.underlying172
  a138 := Tryz.isAgg172
  z138 := Tryz.sizeOf172
  v138 := Tryz.zeroValue172
  t139 := Tryz.underlying173
  a139 := Tryz.isAgg173
  z139 := Tryz.sizeOf173
  v139 := Tryz.zeroValue173
  t160 := Tryz.underlying174
  a160 := Tryz.isAgg174
  z160 := Tryz.sizeOf174
  v160 := Tryz.zeroValue174
  t162 := Tryz.underlying169
  a162 := Tryz.isAgg169
  z162 := Tryz.sizeOf169
  v162 := Tryz.zeroValue169
  t164 := Tryz.underlying163
  a164 := Tryz.isAgg163
  z164 := Tryz.sizeOf163
  v164 := Tryz.zeroValue163
  t203 := Tryz.underlying167
  a203 := Tryz.isAgg167
  z203 := Tryz.sizeOf167
  v203 := Tryz.zeroValue167
  t206 := Tryz.underlying178
  a206 := Tryz.isAgg178
  z206 := Tryz.sizeOf178
  v206 := Tryz.zeroValue178
  t208 := Tryz.underlying180
  a208 := Tryz.isAgg180
  z208 := Tryz.sizeOf180
  v208 := Tryz.zeroValue180
  g3 := by kernel_rfl
  g4 := by kernel_rfl
  g13 := by kernel_rfl }
theorem Tryz.Builder_Extra_159 : Builder.Extra Tryz.prog Tryz.lays159_ren := {
  sizeBuilder := by kernel_rfl
  liesBuilder := by kernel_rfl
  t5 := Tryz.underlying5
  a5 := Tryz.isAgg5
  z5 := Tryz.sizeOf5
  v5 := Tryz.zeroValue5
  infoByte := by kernel_rfl
  cellsByte := by kernel_rfl
  sizeByte := by kernel_rfl
  neB5 := by decide }
open Go.RowKit in
theorem Tryz.strings_ToLower_ascii (s : ByteArray) (w : World) (hs : s.size ≤ 140737488355328) (hascii : ∀ (j : Nat) (b : UInt8), s.data.toList[j]? = some b → b.toNat < 128) :
    Calls Tryz.prog 58 #[.string s] w fun e w' => e = .returned (.string ⟨(Lib.toLowerA s.data.toList).toArray⟩) ∧ Below w.heap.size w w' := Any.strings_ToLower_ascii Tryz.lays159 Tryz.Builder_Extra_159 s w hs hascii
def Tryz.lays172_ren : Go.Shelf.Ren := ⟨fun | 172 => 136 | 244 => 148 | 245 => 149 | 247 => 152 | 279 => 153 | 280 => 154 | 281 => 155 | 282 => 156 | 287 => 157 | 316 => 158 | 171 => 159 | 205 => 47 | 321 => 160 | 322 => 161 | 243 => 162 | 246 => 163 | 283 => 164 | 284 => 165 | 285 => 166 | 286 => 167 | 129 => 169 | 317 => 168 | 318 => 170 | 319 => 171 | 320 => 172 | 337 => 173 | 338 => 174 | n => n, fun | 9 => 9 | 3 => 3 | 75 => 71 | 76 => 141 | 4 => 4 | 5 => 5 | 167 => 233 | 37 => 137 | 0 => 0 | 85 => 234 | 2 => 2 | 168 => 236 | 53 => 76 | 175 => 239 | 46 => 145 | 210 => 242 | 127 => 155 | 145 => 135 | 143 => 133 | 21 => 21 | 171 => 245 | 173 => 248 | 212 => 251 | 51 => 144 | 20 => 20 | 213 => 252 | 232 => 255 | 233 => 256 | 80 => 143 | n => n, fun | 15 => 4 | 16 => 5 | 17 => 6 | 18 => 7 | 19 => 8 | n => n⟩
theorem Tryz.lays172 : Go.Proofs.Lays.n172 Tryz.prog Tryz.lays172_ren := {
  mixed := by kernel_rfl
  f129 := Tryz.func169.trans (congrArg some (by kernel_rfl))
  f171 := Tryz.func159.trans (congrArg some (by kernel_rfl))
  f172 := Tryz.func136.trans (congrArg some (by kernel_rfl))
  f205 := Tryz.func47.trans (congrArg some (by kernel_rfl))
  f243 := Tryz.func162.trans (congrArg some (by kernel_rfl))
  f244 := Tryz.func148.trans (congrArg some (by kernel_rfl))
  f245 := Tryz.func149.trans (congrArg some (by kernel_rfl))
  f246 := Tryz.func163.trans (congrArg some (by kernel_rfl))
  f247 := Tryz.func152.trans (congrArg some (by kernel_rfl))
  f279 := Tryz.func153.trans (congrArg some (by kernel_rfl))
  f280 := Tryz.func154.trans (congrArg some (by kernel_rfl))
  f281 := Tryz.func155.trans (congrArg some (by kernel_rfl))
  f282 := Tryz.func156.trans (congrArg some (by kernel_rfl))
  f283 := Tryz.func164.trans (congrArg some (by kernel_rfl))
  f284 := Tryz.func165.trans (congrArg some (by kernel_rfl))
  f285 := Tryz.func166.trans (congrArg some (by kernel_rfl))
  f286 := Tryz.func167.trans (congrArg some (by kernel_rfl))
  f287 := Tryz.func157.trans (congrArg some (by kernel_rfl))
  f316 := Tryz.func158.trans (congrArg some (by kernel_rfl))
  f317 := Tryz.func168.trans (congrArg some (by kernel_rfl))
  f318 := Tryz.func170.trans (congrArg some (by kernel_rfl))
  f319 := Tryz.func171.trans (congrArg some (by kernel_rfl))
  f320 := Tryz.func172.trans (congrArg some (by kernel_rfl))
  f321 := Tryz.func160.trans (congrArg some (by kernel_rfl))
  f322 := Tryz.func161.trans (congrArg some (by kernel_rfl))
  f337 := Tryz.func173.trans (congrArg some (by kernel_rfl))
  f338 := Tryz.func174.trans (congrArg some (by kernel_rfl))
  t0 := Tryz.underlying0
  a0 := Tryz.isAgg0
  z0 := Tryz.sizeOf0
  v0 := Tryz.zeroValue0
  t2 := Tryz.underlying2
  a2 := Tryz.isAgg2
  z2 := Tryz.sizeOf2
  v2 := Tryz.zeroValue2
  t3 := Tryz.underlying3
  a3 := Tryz.isAgg3
  z3 := Tryz.sizeOf3
  v3 := Tryz.zeroValue3
  t4 := Tryz.underlying4
  a4 := Tryz.isAgg4
  z4 := Tryz.sizeOf4
  v4 := Tryz.zeroValue4
  t5 := Tryz.underlying5
  a5 := Tryz.isAgg5
  z5 := Tryz.sizeOf5
  v5 := Tryz.zeroValue5
  t9 := Tryz.underlying9
  a9 := Tryz.isAgg9
  z9 := Tryz.sizeOf9
  v9 := Tryz.zeroValue9
  t20 := Tryz.underlying20
  a20 := Tryz.isAgg20
  z20 := Tryz.sizeOf20
  v20 := Tryz.zeroValue20
  t21 := Tryz.underlying21
  a21 := Tryz.isAgg21
  z21 := Tryz.sizeOf21
  v21 := Tryz.zeroValue21
  t37 := Tryz.underlying137
  a37 := Tryz.isAgg137
  z37 := Tryz.sizeOf137
  v37 := Tryz.zeroValue137
  t46 := Tryz.underlying145
  a46 := Tryz.isAgg145
  z46 := Tryz.sizeOf145
  v46 := Tryz.zeroValue145
  t51 := Tryz.underlying144
  a51 := Tryz.isAgg144
  z51 := Tryz.sizeOf144
  v51 := Tryz.zeroValue144
  t53 := Tryz.underlying76
  a53 := Tryz.isAgg76
  z53 := Tryz.sizeOf76
  v53 := Tryz.zeroValue76
  t75 := Tryz.underlying71
  a75 := Tryz.isAgg71
  z75 := Tryz.sizeOf71
  v75 := Tryz.zeroValue71
  t76 := Tryz.underlying141
  a76 := Tryz.isAgg141
  z76 := Tryz.sizeOf141
  v76 := Tryz.zeroValue141
  t85 := Tryz.underlying234
  a85 := Tryz.isAgg234
  z85 := Tryz.sizeOf234
  v85 := Tryz.zeroValue234
  t127 := Tryz.underlying155
  a127 := Tryz.isAgg155
  z127 := Tryz.sizeOf155
  v127 := Tryz.zeroValue155
  t143 := Tryz.underlying133
  a143 := Tryz.isAgg133
  z143 := Tryz.sizeOf133
  v143 := Tryz.zeroValue133
  t145 := Tryz.underlying135
  a145 := Tryz.isAgg135
  z145 := Tryz.sizeOf135
  v145 := Tryz.zeroValue135
  t167 := Tryz.underlying233
  a167 := Tryz.isAgg233
  z167 := Tryz.sizeOf233
  v167 := Tryz.zeroValue233
  t168 := Tryz.underlying236
  a168 := Tryz.isAgg236
  z168 := Tryz.sizeOf236
  v168 := Tryz.zeroValue236
  t171 := Tryz.underlying245
  a171 := Tryz.isAgg245
  z171 := Tryz.sizeOf245
  v171 := Tryz.zeroValue245
  t173 := Tryz.underlying248
  a173 := Tryz.isAgg248
  z173 := Tryz.sizeOf248
  v173 := Tryz.zeroValue248
  t175 := Tryz.underlying239
  a175 := Tryz.isAgg239
  z175 := Tryz.sizeOf239
  v175 := Tryz.zeroValue239
  t210 := Tryz.underlying242
  a210 := Tryz.isAgg242
  z210 := Tryz.sizeOf242
  v210 := Tryz.zeroValue242
  t212 := Tryz.underlying251
  a212 := Tryz.isAgg251
  z212 := Tryz.sizeOf251
  v212 := Tryz.zeroValue251
  t213 := Tryz.underlying252
  a213 := Tryz.isAgg252
  z213 := Tryz.sizeOf252
  t232 := Tryz.underlying255
  a232 := Tryz.isAgg255
  z232 := Tryz.sizeOf255
  v232 := Tryz.zeroValue255
  t233 := Tryz.underlying256
  a233 := Tryz.isAgg256
  z233 := Tryz.sizeOf256
  v233 := Tryz.zeroValue256
  g15 := by kernel_rfl
  g16 := by kernel_rfl
  g17 := by kernel_rfl
  g18 := by kernel_rfl
  g19 := by kernel_rfl }
open Go.RowKit in
theorem Tryz.strconv_Atoi (s : ByteArray) (n : Int) (hl : s.size ≤ 18) (h : Lib.atoi s.data.toList = some n) (w : World) :
    Calls Tryz.prog 136 #[.string s] w fun e w' => e = .returned (.tuple #[.int .i64 n, .nilIface]) ∧ ∃ t, w' = Lib.bytesWorld w 5 t := Any.strconv_Atoi Tryz.lays172 s n hl h w
end Go.Proofs
namespace Go.Proofs.YtemgofomhjabpaaGreatDoor.Core
open Go.RowKit Go.Proofs.YtemgofomhjabpaaGreatDoorW.PrintWords
def isAscii (s : ByteArray) : Bool := s.data.toList.all fun b => decide (b.toNat < 128)
theorem isAscii_at {s : ByteArray} (h : isAscii s = true) (j : Nat) (b : UInt8) (hb : s.data.toList[j]? = some b) : b.toNat < 128 :=
  of_decide_eq_true (List.all_eq_true.1 h b (List.mem_of_getElem? hb))
def strings_ToLower.f (a0 : ByteArray) : Option (ByteArray) := if a0.size ≤ 140737488355328 then (if isAscii a0 = true then (some ⟨(Lib.toLowerA a0.data.toList).toArray⟩) else none) else none
theorem strings_ToLower.calls (a0 : ByteArray) (r : ByteArray) (w : World) (h : strings_ToLower.f a0 = some r) :
    Calls Tryz.prog 58 #[.string a0] w fun e w' => e = .returned (.string r) ∧ Below w.heap.size w w' := by
  unfold strings_ToLower.f at h
  split at h
  · rename_i h1
    split at h
    · rename_i h2
      obtain rfl := Option.some.inj h
      exact Tryz.strings_ToLower_ascii a0 w h1 (fun j b hb => isAscii_at h2 j b hb)
    · cases h
  · cases h
def strings_ToUpper.f (a0 : ByteArray) : Option (ByteArray) := if a0.size ≤ 140737488355328 then (if isAscii a0 = true then (some ⟨(Lib.toUpperA a0.data.toList).toArray⟩) else none) else none
theorem strings_ToUpper.calls (a0 : ByteArray) (r : ByteArray) (w : World) (h : strings_ToUpper.f a0 = some r) :
    Calls Tryz.prog 61 #[.string a0] w fun e w' => e = .returned (.string r) ∧ Below w.heap.size w w' := by
  unfold strings_ToUpper.f at h
  split at h
  · rename_i h1
    split at h
    · rename_i h2
      obtain rfl := Option.some.inj h
      exact Tryz.strings_ToUpper_ascii a0 w h1 (fun j b hb => isAscii_at h2 j b hb)
    · cases h
  · cases h
end Go.Proofs.YtemgofomhjabpaaGreatDoor.Core
namespace Go.Proofs.YtemgofomhjabpaaGreatDoor.Core
open Go.RowKit Go.Proofs.YtemgofomhjabpaaGreatDoorW.PrintWords Go.Proofs.YtemgofomhjabpaaGreatDoorW.PrintLast Go.Proofs.YtemgofomhjabpaaGreatDoorW.PrintMore
attribute [local go_sem] max2_int min2_int max_two min_two max_three min_three max_four min_four   -- for this text's walks alone
set_option linter.unusedVariables false
set_option linter.unusedSimpArgs false
def gronx_normalize.j0 : Nat → ByteArray → Option (List ByteArray)
  | 0, _ => none
  | k + 1, x0 => (gronx_zzSpaces.f k x0).bind fun t360 => ((strings_ToUpper.f t360).bind fun t361 => ((gronx_zzLiterals.f k t361).bind fun t362 => ((gronx_zzReplaceAll.f k t362 (⟨#[32, 32]⟩ : ByteArray) (⟨#[32]⟩ : ByteArray)).bind fun t363 => ((gronx_zzSplit.f k t363 (⟨#[32]⟩ : ByteArray)).bind fun t364 => (some t364)))))
def gronx_normalize.f (k : Nat) (a0 : ByteArray) : Option (List ByteArray) := (gronx_zzTrim.f k a0).bind fun t356 => ((strings_ToLower.f t356).bind fun t357 => ((gronx_expression.f t357).bind fun bt358 => (if bt358.2 = true then (gronx_normalize.j0 k bt358.1) else (gronx_normalize.j0 k t356))))
set_option maxHeartbeats 8000000 in
set_option maxRecDepth 100000 in
theorem gronx_normalize.calls (k : Nat) (a0 : ByteArray) (r : List ByteArray) (w : World) (h : gronx_normalize.f k a0 = some r) :
    Calls Tryz.prog 46 #[.string a0] w fun e w' => ∃ v0_ : Value, e = .returned (v0_) ∧ Kd.R Kd.string 9 w' w.heap.size (fun _ => True) v0_ r ∧ Below w.heap.size w w' := by
  have HB := Aside0.mk (Below.refl w.heap.size w)
  have H : ((gronx_zzTrim.f k a0).bind fun t356 => ((strings_ToLower.f t356).bind fun t357 => ((gronx_expression.f t357).bind fun bt358 => (if bt358.2 = true then (gronx_normalize.j0 k bt358.1) else (gronx_normalize.j0 k t356))))) = some r := h
  clear h
  replace H := Option.bind_eq_some_iff.mp H
  obtain ⟨t356, A20, H⟩ := H
  replace H : ((strings_ToLower.f t356).bind fun t357 => ((gronx_expression.f t357).bind fun bt358 => (if bt358.2 = true then (gronx_normalize.j0 k bt358.1) else (gronx_normalize.j0 k t356)))) = some r := H
  have A2 := Aside0.mk A20
  clear A20
  replace H := Option.bind_eq_some_iff.mp H
  obtain ⟨t357, A30, H⟩ := H
  replace H : ((gronx_expression.f t357).bind fun bt358 => (if bt358.2 = true then (gronx_normalize.j0 k bt358.1) else (gronx_normalize.j0 k t356))) = some r := H
  have A3 := Aside0.mk A30
  clear A30
  replace H := Option.bind_eq_some_iff.mp H
  obtain ⟨⟨t358, t359⟩, A40, H⟩ := H
  replace H : (if t359 = true then (gronx_normalize.j0 k t358) else (gronx_normalize.j0 k t356)) = some r := H
  have A4 := Aside0.mk A40
  clear A40
  have HC5 := Aside0.mk H
  clear H
  go_enter Tryz.func46, Tryz.ntmps46
  go_upto_if 13 with (first | ((with_reducible refine gate_callee (f := 56) rfl ?_); refine goesL_ (some 6) rfl rfl Tryz.func56 (by kernel_rfl) rfl #[.string a0] rfl (by (try simp only [List.map_toArray, List.map_cons, List.map_nil]); first | done | rfl | (simp only [List.length_drop, List.length_take]; rfl)) ?_; (with_reducible refine (gronx_zzTrim.calls k a0 t356 _ A2.out).mono ?_); rintro e w' ⟨rfl, ⟨nd, rfl⟩⟩; refine ⟨_, rfl, ?_⟩) | ((with_reducible refine gate_callee (f := 58) rfl ?_); refine goesL_ (some 9) rfl rfl Tryz.func58 (by kernel_rfl) rfl #[.string t356] rfl (by (try simp only [List.map_toArray, List.map_cons, List.map_nil]); first | done | rfl | (simp only [List.length_drop, List.length_take]; rfl)) ?_; (with_reducible refine (strings_ToLower.calls t356 t357 _ A3.out).mono ?_); rintro e w6 ⟨rfl, hb⟩; refine ⟨_, rfl, ?_⟩; have n0_ := Aside0.mk (below_step (by repeat (first | (with_reducible first | exact HB.out | apply below_alloc | apply pw_below_drewN | apply below_drew1) | exact HB.out)) hb); clear HB; have HB := n0_; clear n0_; (try clear hb); (try clear hb2); (try clear hk); (try clear hi)) | ((with_reducible refine gate_callee (f := 57) rfl ?_); refine goesL_ (some 10) rfl rfl Tryz.func57 (by kernel_rfl) rfl #[.string t357] rfl (by (try simp only [List.map_toArray, List.map_cons, List.map_nil]); first | done | rfl | (simp only [List.length_drop, List.length_take]; rfl)) ?_; (with_reducible refine (gronx_expression.calls t357 t358 t359 _ A4.out).mono ?_); rintro e w' ⟨rfl, ⟨nd, rfl⟩⟩; refine ⟨_, rfl, ?_⟩))
  (try simp only [Act.put, List.setIfInBounds_toArray, List.set_cons_zero, List.set_cons_succ])
  go_cut [0] (fun v0 wc => ∃ (kq : Nat) (x0_4 : ByteArray), v0 = .string x0_4 ∧ Aside0 (gronx_normalize.j0 kq x0_4 = some r) ∧ Aside0 (kq ≤ k) ∧ Aside0 (Below w.heap.size w wc))
  case first =>
    have H := HC5.out
    clear HC5
    by_cases c7 : t359 = true
    · subst c7
      have H1 : (gronx_normalize.j0 k t358) = some r := by rw [if_pos rfl] at H; exact H
      clear H
      have H := H1
      clear H1
      have H' := Aside0.mk H
      clear H
      go_wp2
      go_meet
      case rel => exact ⟨_, (t358), (by first | rfl | (simp; done) | (simp [*]; done)), H', ⟨by first | omega | exact Nat.le_refl _⟩, ⟨by repeat (first | (with_reducible first | exact HB.out | apply below_alloc | apply pw_below_drewN | apply below_drew1) | exact HB.out)⟩⟩
    · replace c7 := Bool.eq_false_iff.mpr c7
      subst c7
      have H1 : (gronx_normalize.j0 k t356) = some r := by rw [if_neg (show ¬ (false = true) by decide)] at H; exact H
      clear H
      have H := H1
      clear H1
      have H' := Aside0.mk H
      clear H
      go_wp2
      go_meet
      case rel => exact ⟨_, (t356), (by first | rfl | (simp; done) | (simp [*]; done)), H', ⟨by first | omega | exact Nat.le_refl _⟩, ⟨by repeat (first | (with_reducible first | exact HB.out | apply below_alloc | apply pw_below_drewN | apply below_drew1) | exact HB.out)⟩⟩
  case rest =>
    clear HC5
    try clear p2
    try clear c4
    try clear c5
    try clear c7
    obtain ⟨kq, x0_4, rfl, HA, HJ4, HB⟩ := hcut
    cases kq with
    | zero => exact absurd HA.out (by simp [gronx_normalize.j0])
    | succ kj4 =>
      have H := HA.out
      clear HA
      simp only [gronx_normalize.j0] at H
      replace H := Option.bind_eq_some_iff.mp H
      obtain ⟨t360, A80, H⟩ := H
      replace H : ((strings_ToUpper.f t360).bind fun t361 => ((gronx_zzLiterals.f kj4 t361).bind fun t362 => ((gronx_zzReplaceAll.f kj4 t362 (⟨#[32, 32]⟩ : ByteArray) (⟨#[32]⟩ : ByteArray)).bind fun t363 => ((gronx_zzSplit.f kj4 t363 (⟨#[32]⟩ : ByteArray)).bind fun t364 => (some t364))))) = some r := H
      have A8 := Aside0.mk A80
      clear A80
      replace H := Option.bind_eq_some_iff.mp H
      obtain ⟨t361, A90, H⟩ := H
      replace H : ((gronx_zzLiterals.f kj4 t361).bind fun t362 => ((gronx_zzReplaceAll.f kj4 t362 (⟨#[32, 32]⟩ : ByteArray) (⟨#[32]⟩ : ByteArray)).bind fun t363 => ((gronx_zzSplit.f kj4 t363 (⟨#[32]⟩ : ByteArray)).bind fun t364 => (some t364)))) = some r := H
      have A9 := Aside0.mk A90
      clear A90
      replace H := Option.bind_eq_some_iff.mp H
      obtain ⟨t362, A100, H⟩ := H
      replace H : ((gronx_zzReplaceAll.f kj4 t362 (⟨#[32, 32]⟩ : ByteArray) (⟨#[32]⟩ : ByteArray)).bind fun t363 => ((gronx_zzSplit.f kj4 t363 (⟨#[32]⟩ : ByteArray)).bind fun t364 => (some t364))) = some r := H
      have A10 := Aside0.mk A100
      clear A100
      replace H := Option.bind_eq_some_iff.mp H
      obtain ⟨t363, A110, H⟩ := H
      replace H : ((gronx_zzSplit.f kj4 t363 (⟨#[32]⟩ : ByteArray)).bind fun t364 => (some t364)) = some r := H
      have A11 := Aside0.mk A110
      clear A110
      replace H := Option.bind_eq_some_iff.mp H
      obtain ⟨t364, A120, H⟩ := H
      replace H : (some t364) = some r := H
      have A12 := Aside0.mk A120
      clear A120
      obtain rfl := Option.some.inj H
      go_wp2_with (first | ((with_reducible refine gate_callee (f := 59) rfl ?_); refine goesL_ (some 16) rfl rfl Tryz.func59 (by kernel_rfl) rfl #[.string x0_4] rfl (by (try simp only [List.map_toArray, List.map_cons, List.map_nil]); first | done | rfl | (simp only [List.length_drop, List.length_take]; rfl)) ?_; (with_reducible refine (gronx_zzSpaces.calls kj4 x0_4 t360 _ A8.out).mono ?_); rintro e w13 ⟨rfl, hb⟩; refine ⟨_, rfl, ?_⟩; have n0_ := Aside0.mk (below_step (by repeat (first | (with_reducible first | exact HB.out | apply below_alloc | apply pw_below_drewN | apply below_drew1) | exact HB.out)) hb); clear HB; have HB := n0_; clear n0_; (try clear hb); (try clear hb2); (try clear hk); (try clear hi)) | ((with_reducible refine gate_callee (f := 61) rfl ?_); refine goesL_ (some 18) rfl rfl Tryz.func61 (by kernel_rfl) rfl #[.string t360] rfl (by (try simp only [List.map_toArray, List.map_cons, List.map_nil]); first | done | rfl | (simp only [List.length_drop, List.length_take]; rfl)) ?_; (with_reducible refine (strings_ToUpper.calls t360 t361 _ A9.out).mono ?_); rintro e w14 ⟨rfl, hb⟩; refine ⟨_, rfl, ?_⟩; have n0_ := Aside0.mk (below_step (by repeat (first | (with_reducible first | exact HB.out | apply below_alloc | apply pw_below_drewN | apply below_drew1) | exact HB.out)) hb); clear HB; have HB := n0_; clear n0_; (try clear hb); (try clear hb2); (try clear hk); (try clear hi)) | ((with_reducible refine gate_callee (f := 60) rfl ?_); refine goesL_ (some 19) rfl rfl Tryz.func60 (by kernel_rfl) rfl #[.string t361] rfl (by (try simp only [List.map_toArray, List.map_cons, List.map_nil]); first | done | rfl | (simp only [List.length_drop, List.length_take]; rfl)) ?_; (with_reducible refine (gronx_zzLiterals.calls kj4 t361 t362 _ A10.out).mono ?_); rintro e w15 ⟨rfl, hb⟩; refine ⟨_, rfl, ?_⟩; have n0_ := Aside0.mk (below_step (by repeat (first | (with_reducible first | exact HB.out | apply below_alloc | apply pw_below_drewN | apply below_drew1) | exact HB.out)) hb); clear HB; have HB := n0_; clear n0_; (try clear hb); (try clear hb2); (try clear hk); (try clear hi)) | ((with_reducible refine gate_callee (f := 63) rfl ?_); refine goesL_ (some 21) rfl rfl Tryz.func63 (by kernel_rfl) rfl #[.string t362, .string (⟨#[32, 32]⟩ : ByteArray), .string (⟨#[32]⟩ : ByteArray)] rfl (by (try simp only [List.map_toArray, List.map_cons, List.map_nil]); first | done | rfl | (simp only [List.length_drop, List.length_take]; rfl)) ?_; (with_reducible refine (gronx_zzReplaceAll.calls kj4 t362 (⟨#[32, 32]⟩ : ByteArray) (⟨#[32]⟩ : ByteArray) t363 _ A11.out).mono ?_); rintro e w16 ⟨rfl, hb⟩; refine ⟨_, rfl, ?_⟩; have n0_ := Aside0.mk (below_step (by repeat (first | (with_reducible first | exact HB.out | apply below_alloc | apply pw_below_drewN | apply below_drew1) | exact HB.out)) hb); clear HB; have HB := n0_; clear n0_; (try clear hb); (try clear hb2); (try clear hk); (try clear hi)) | ((with_reducible refine gate_callee (f := 62) rfl ?_); refine goesL_ (some 22) rfl rfl Tryz.func62 (by kernel_rfl) rfl #[.string t363, .string (⟨#[32]⟩ : ByteArray)] rfl (by (try simp only [List.map_toArray, List.map_cons, List.map_nil]); first | done | rfl | (simp only [List.length_drop, List.length_take]; rfl)) ?_; (with_reducible refine (gronx_zzSplit.calls kj4 t363 (⟨#[32]⟩ : ByteArray) t364 _ A12.out).mono ?_); rintro e w17 ⟨v365, rfl, ho0, hb⟩; refine ⟨_, rfl, ?_⟩; have n0_ := Aside0.mk (Kd.R_lower ho0 (below_size (by repeat (first | (with_reducible first | exact HB.out | apply below_alloc | apply pw_below_drewN | apply below_drew1) | exact HB.out)))); have n1_ := Aside0.mk (below_step (by repeat (first | (with_reducible first | exact HB.out | apply below_alloc | apply pw_below_drewN | apply below_drew1) | exact HB.out)) hb); clear HB; have HO366 := n0_; have HB := n1_; clear n0_ n1_; (try clear hb); (try clear hb2); (try clear hk); (try clear hi); (try clear ho0)))
      go_ret
      exact ⟨_, by first | rfl | (simp [errW_none, errW_some] <;> rfl) | (simp [*, errW_none, errW_some] <;> rfl), by (with_reducible repeat (first | apply Kd.R_alloc | apply Kd.R_drewN | apply Kd.R_drew)); exact HO366.out, by repeat (first | (with_reducible first | exact HB.out | apply below_alloc | apply pw_below_drewN | apply below_drew1) | exact HB.out)⟩
end Go.Proofs.YtemgofomhjabpaaGreatDoor.Core
namespace Go.Proofs.YtemgofomhjabpaaGreatDoor.Core
open Go.RowKit Go.Proofs.YtemgofomhjabpaaGreatDoorW.PrintWords Go.Proofs.YtemgofomhjabpaaGreatDoorW.PrintLast Go.Proofs.YtemgofomhjabpaaGreatDoorW.PrintMore
attribute [local go_sem] max2_int min2_int max_two min_two max_three min_three max_four min_four   -- for this text's walks alone
set_option linter.unusedVariables false
set_option linter.unusedSimpArgs false
mutual
def gronx_zzHasYear.l0 : Nat → ByteArray → Int → Int → Option (Bool)
  | 0, _, _, _ => none
  | k + 1, x0, x3, x4 => if x4 < (x0.size : Int) then (if 0 ≤ x4 then (if (bt x0 x4) < 48 then (gronx_zzHasYear.j1 k x0 x3 x4 true) else (gronx_zzHasYear.j1 k x0 x3 x4 (decide ((bt x0 x4) > 57)))) else (none)) else (some false)
def gronx_zzHasYear.j1 : Nat → ByteArray → Int → Int → Bool → Option (Bool)
  | 0, _, _, _, _ => none
  | k + 1, x0, x3, x4, x20 => if x20 = true then (gronx_zzHasYear.l0 k x0 0 (wrap64 (x4 + 1))) else (if (wrap64 (x3 + 1)) = 4 then (some true) else (gronx_zzHasYear.l0 k x0 (wrap64 (x3 + 1)) (wrap64 (x4 + 1))))
end
def gronx_zzHasYear.f (k : Nat) (a0 : ByteArray) : Option (Bool) := gronx_zzHasYear.l0 k a0 0 0
set_option maxHeartbeats 8000000 in
set_option maxRecDepth 100000 in
theorem gronx_zzHasYear.calls (k : Nat) (a0 : ByteArray) (r : Bool) (w : World) (h : gronx_zzHasYear.f k a0 = some r) :
    Calls Tryz.prog 48 #[.string a0] w fun e w' => e = .returned (.bool r) ∧ Drawn0 w w' := by
  have H : (gronx_zzHasYear.l0 k a0 0 0) = some r := h
  clear h
  have H' := Aside0.mk H
  clear H
  go_enter Tryz.func48, Tryz.ntmps48
  go_wp2
  go_loopg [3, 4] k (fun kq v3 v4 w' => ∃ (x3_1 : Int) (x4_1 : Int), v3 = .int .i64 x3_1 ∧ v4 = .int .i64 x4_1 ∧ Aside0 (gronx_zzHasYear.l0 kq a0 x3_1 x4_1 = some r) ∧ Aside0 (kq ≤ k) ∧ Drawn0 w w')
  case atStart => exact ⟨(0), (0), (by first | rfl | (simp; done) | (simp [*]; done)), (by first | rfl | (simp; done) | (simp [*]; done)), H', ⟨Nat.le_refl _⟩, by repeat (first | exact Drawn0.refl _ | apply Drawn0.step)⟩
  case round =>
    clear H'
    obtain ⟨x3_1, x4_1, rfl, rfl, HA, HK1, ⟨m1, rfl⟩⟩ := hrel
    cases gk with
    | zero => exact absurd HA.out (by simp [gronx_zzHasYear.l0])
    | succ k1 =>
      have H := HA.out
      clear HA
      simp only [gronx_zzHasYear.l0] at H
      by_cases c2 : x4_1 < (a0.size : Int)
      · rw [if_pos c2] at H
        have c2b0 : decide (x4_1 < (a0.size : Int)) = true := decide_eq_true c2
        clear c2
        have HC3 := Aside0.mk H
        clear H
        go_upto_region 5 with (fail)
        go_cut [20] (fun v20 wc => ∃ (kq : Nat) (x20_2 : Bool), v20 = .bool x20_2 ∧ Aside0 (gronx_zzHasYear.j1 kq a0 x3_1 x4_1 x20_2 = some r) ∧ Aside0 (kq ≤ k1) ∧ Drawn0 w wc)
        case first =>
          have H := HC3.out
          clear HC3
          by_cases c4 : 0 ≤ x4_1
          · rw [if_pos c4] at H
            have c4b0 : decide (0 ≤ x4_1) = true := decide_eq_true c4
            clear c4
            (first | rw [c4b0] | (simp only [i64_w, i32_w]; rw [c4b0]) | skip)
            by_cases c6 : (bt a0 x4_1) < 48
            · rw [if_pos c6] at H
              have c6b0 : decide ((bt a0 x4_1) < 48) = true := decide_eq_true c6
              clear c6
              have H' := Aside0.mk H
              clear H
              have p5 : 0 ≤ (x4_1 : Int) := of_decide_eq_true (by first | (with_reducible assumption) | assumption)
              have q5 : x4_1 < (a0.size : Int) := of_decide_eq_true (by first | (with_reducible assumption) | assumption)
              have hx5 := bt_at a0 x4_1
              replace p5 := eq_true p5
              replace q5 := eq_true q5
              go_wp2
              go_meet
              case rel => exact ⟨_, (true), (by first | rfl | (simp; done) | (simp [*]; done)), H', ⟨by have := HK1.out; first | omega | exact Nat.le_refl _⟩, by repeat (first | exact Drawn0.refl _ | apply Drawn0.step)⟩
            · rw [if_neg c6] at H
              have c6b0 : decide ((bt a0 x4_1) < 48) = false := decide_eq_false c6
              clear c6
              have H' := Aside0.mk H
              clear H
              have p5 : 0 ≤ (x4_1 : Int) := of_decide_eq_true (by first | (with_reducible assumption) | assumption)
              have q5 : x4_1 < (a0.size : Int) := of_decide_eq_true (by first | (with_reducible assumption) | assumption)
              have hx5 := bt_at a0 x4_1
              replace p5 := eq_true p5
              replace q5 := eq_true q5
              have p7 : 0 ≤ (x4_1 : Int) := of_decide_eq_true (by first | (with_reducible assumption) | assumption)
              have q7 : x4_1 < (a0.size : Int) := of_decide_eq_true (by first | (with_reducible assumption) | assumption)
              have hx7 := bt_at a0 x4_1
              replace p7 := eq_true p7
              replace q7 := eq_true q7
              go_wp2
              go_meet
              case rel => exact ⟨_, (decide ((bt a0 x4_1) > 57)), (by first | rfl | (simp; done) | (simp [*]; done)), H', ⟨by have := HK1.out; first | omega | exact Nat.le_refl _⟩, by repeat (first | exact Drawn0.refl _ | apply Drawn0.step)⟩
          · rw [if_neg c4] at H
            exact absurd H (by simp)
        case rest =>
          clear HC3
          try clear c2
          try clear c2b0
          try clear p2
          try clear c4
          try clear c4b0
          try clear p5
          try clear q5
          try clear hx5
          try clear c6
          try clear c6b0
          try clear p7
          try clear q7
          try clear hx7
          try clear p5
          try clear p7
          try clear q5
          try clear q7
          obtain ⟨kq, x20_2, rfl, HA, HJ2, ⟨mc2, rfl⟩⟩ := hcut
          cases kq with
          | zero => exact absurd HA.out (by simp [gronx_zzHasYear.j1])
          | succ kj2 =>
            have H := HA.out
            clear HA
            simp only [gronx_zzHasYear.j1] at H
            by_cases c8 : x20_2 = true
            · subst c8
              have H1 : (gronx_zzHasYear.l0 kj2 a0 0 (wrap64 (x4_1 + 1))) = some r := by rw [if_pos rfl] at H; exact H
              clear H
              have H := H1
              clear H1
              have H' := Aside0.mk H
              clear H
              go_wp2
              go_roundg kj2
              case measure => have := HK1.out; have := HJ2.out; omega
              case rel => exact ⟨(0), (wrap64 (x4_1 + 1)), (by first | rfl | (simp; done) | (simp [*]; done)), (by first | rfl | (simp; done) | (simp [*]; done)), H', ⟨by have := HK1.out; have := HJ2.out; omega⟩, by repeat (first | exact Drawn0.refl _ | apply Drawn0.step)⟩
            · replace c8 := Bool.eq_false_iff.mpr c8
              subst c8
              have H1 : (if (wrap64 (x3_1 + 1)) = 4 then (some true) else (gronx_zzHasYear.l0 kj2 a0 (wrap64 (x3_1 + 1)) (wrap64 (x4_1 + 1)))) = some r := by rw [if_neg (show ¬ (false = true) by decide)] at H; exact H
              clear H
              have H := H1
              clear H1
              by_cases c9 : (wrap64 (x3_1 + 1)) = 4
              · rw [if_pos c9] at H
                have c9b0 : ((wrap64 (x3_1 + 1)) == 4) = true := beq_iff_eq.mpr c9
                have c9b1 : ((wrap64 (x3_1 + 1)) != 4) = false := bne_eq_false_iff_eq.mpr c9
                clear c9
                obtain rfl := Option.some.inj H
                go_wp2
                go_ret
                exact ⟨by first | rfl | (simp; done) | (simp [*]; done), by repeat (first | exact Drawn0.refl _ | apply Drawn0.step)⟩
              · rw [if_neg c9] at H
                have c9b0 : ((wrap64 (x3_1 + 1)) == 4) = false := beq_eq_false_iff_ne.mpr c9
                have c9b1 : ((wrap64 (x3_1 + 1)) != 4) = true := bne_iff_ne.mpr c9
                have H' := Aside0.mk H
                clear H
                go_wp2
                go_roundg kj2
                case measure => have := HK1.out; have := HJ2.out; omega
                case rel => exact ⟨(wrap64 (x3_1 + 1)), (wrap64 (x4_1 + 1)), (by first | rfl | (simp; done) | (simp [*]; done)), (by first | rfl | (simp; done) | (simp [*]; done)), H', ⟨by have := HK1.out; have := HJ2.out; omega⟩, by repeat (first | exact Drawn0.refl _ | apply Drawn0.step)⟩
      · rw [if_neg c2] at H
        have c2b0 : decide (x4_1 < (a0.size : Int)) = false := decide_eq_false c2
        clear c2
        obtain rfl := Option.some.inj H
        go_wp2
        go_ret
        exact ⟨by first | rfl | (simp; done) | (simp [*]; done), by repeat (first | exact Drawn0.refl _ | apply Drawn0.step)⟩
end Go.Proofs.YtemgofomhjabpaaGreatDoor.Core
namespace Go.Proofs.YtemgofomhjabpaaGreatDoor.Core
open Go.RowKit Go.Proofs.YtemgofomhjabpaaGreatDoorW.PrintWords Go.Proofs.YtemgofomhjabpaaGreatDoorW.PrintLast Go.Proofs.YtemgofomhjabpaaGreatDoorW.PrintMore
attribute [local go_sem] max2_int min2_int max_two min_two max_three min_three max_four min_four   -- for this text's walks alone
set_option linter.unusedVariables false
set_option linter.unusedSimpArgs false
def gronx_Segments.j0 : Nat → List ByteArray → Int → Bool → Option (List ByteArray × Option Int)
  | 0, _, _, _ => none
  | k + 1, x4, x5, x16 => if x16 = true then ((errors_New.f (⟨#[101, 120, 112, 114, 32, 115, 104, 111, 117, 108, 100, 32, 99, 111, 110, 116, 97, 105, 110, 32, 53, 45, 55, 32, 115, 101, 103, 109, 101, 110, 116, 115, 32, 115, 101, 112, 97, 114, 97, 116, 101, 100, 32, 98, 121, 32, 115, 112, 97, 99, 101]⟩ : ByteArray)).bind fun t373 => (some ((([] : List ByteArray)), t373))) else (if x5 = 5 then ((some (([(⟨#[48]⟩ : ByteArray)] : List ByteArray) : List ByteArray)).bind fun y374 => (if y374.length + x4.length < 8796093022208 then (some ((y374 ++ x4), none)) else (none))) else (if x5 = 6 then (if 5 < (x4.length : Int) then ((gronx_zzHasYear.f k (rdOf ByteArray.empty x4 5)).bind fun t381 => (if t381 = true then ((some (([(⟨#[48]⟩ : ByteArray)] : List ByteArray) : List ByteArray)).bind fun y382 => (if y382.length + x4.length < 8796093022208 then (some ((y382 ++ x4), none)) else (none))) else (some (x4, none)))) else (none)) else (some (x4, none))))
def gronx_Segments.f (k : Nat) (a0 : ByteArray) : Option (List ByteArray × Option Int) := (gronx_normalize.f k a0).bind fun t367 => (if (t367.length : Int) < 5 then (gronx_Segments.j0 k t367 (t367.length : Int) true) else (gronx_Segments.j0 k t367 (t367.length : Int) (decide ((t367.length : Int) > 7))))
set_option maxHeartbeats 8000000 in
set_option maxRecDepth 100000 in
theorem gronx_Segments.calls (k : Nat) (a0 : ByteArray) (r1 : List ByteArray) (r2 : Option Int) (w : World) (h : gronx_Segments.f k a0 = some (r1, r2)) :
    Calls Tryz.prog 39 #[.string a0] w fun e w' => ∃ v0_ : Value, e = .returned (.tuple #[v0_, errW r2]) ∧ Kd.R Kd.string 9 w' w.heap.size (fun _ => True) v0_ r1 ∧ Below w.heap.size w w' := by
  have HB := Aside0.mk (Below.refl w.heap.size w)
  have H : ((gronx_normalize.f k a0).bind fun t367 => (if (t367.length : Int) < 5 then (gronx_Segments.j0 k t367 (t367.length : Int) true) else (gronx_Segments.j0 k t367 (t367.length : Int) (decide ((t367.length : Int) > 7))))) = some (r1, r2) := h
  clear h
  replace H := Option.bind_eq_some_iff.mp H
  obtain ⟨t367, A20, H⟩ := H
  replace H : (if (t367.length : Int) < 5 then (gronx_Segments.j0 k t367 (t367.length : Int) true) else (gronx_Segments.j0 k t367 (t367.length : Int) (decide ((t367.length : Int) > 7)))) = some (r1, r2) := H
  have A2 := Aside0.mk A20
  clear A20
  have HC3 := Aside0.mk H
  clear H
  go_enter Tryz.func39, Tryz.ntmps39
  go_upto_region 3 with (first | ((with_reducible refine gate_callee (f := 46) rfl ?_); refine goesL_ (some 8) rfl rfl Tryz.func46 (by kernel_rfl) rfl #[.string a0] rfl (by (try simp only [List.map_toArray, List.map_cons, List.map_nil]); first | done | rfl | (simp only [List.length_drop, List.length_take]; rfl)) ?_; (with_reducible refine (gronx_normalize.calls k a0 t367 _ A2.out).mono ?_); rintro e w4 ⟨v368, rfl, ho0, hb⟩; refine ⟨_, rfl, ?_⟩; have n0_ := Aside0.mk (Kd.R_lower ho0 (below_size (by repeat (first | (with_reducible first | exact HB.out | apply below_alloc | apply pw_below_drewN | apply below_drew1) | exact HB.out)))); have n1_ := Aside0.mk (below_step (by repeat (first | (with_reducible first | exact HB.out | apply below_alloc | apply pw_below_drewN | apply below_drew1) | exact HB.out)) hb); clear HB; have HO369 := n0_; have HB := n1_; clear n0_ n1_; (try clear hb); (try clear hb2); (try clear hk); (try clear hi); (try clear ho0); obtain ⟨Ao5, co5, eo5⟩ := Kd.R_slice HO369.out; subst eo5))
  (try simp only [Act.put, List.setIfInBounds_toArray, List.set_cons_zero, List.set_cons_succ])
  go_cut [16] (fun v16 wc => ∃ (kq : Nat) (x16_2 : Bool), v16 = .bool x16_2 ∧ Aside0 (gronx_Segments.j0 kq t367 (t367.length : Int) x16_2 = some (r1, r2)) ∧ Aside0 (kq ≤ k) ∧ Aside0 (Kd.R Kd.string 9 wc w.heap.size (fun _ => True) (.slice Ao5 t367.length co5) t367) ∧ Aside0 (Below w.heap.size w wc))
  case first =>
    have H := HC3.out
    clear HC3
    by_cases c6 : (t367.length : Int) < 5
    · rw [if_pos c6] at H
      have c6b0 : decide ((t367.length : Int) < 5) = true := decide_eq_true c6
      have c6b1 : decide (t367.length < 5) = true := decide_eq_true (by omega)
      clear c6
      (first | rw [c6b0] | (simp only [i64_w, i32_w]; rw [c6b0]) | skip)
      have H' := Aside0.mk H
      clear H
      go_wp2
      go_meet
      case rel => exact ⟨_, (true), (by first | rfl | (simp; done) | (simp [*]; done)), H', ⟨by first | omega | exact Nat.le_refl _⟩, ⟨by (with_reducible repeat (first | apply Kd.R_alloc | apply Kd.R_drewN | apply Kd.R_drew)); exact HO369.out⟩, ⟨by repeat (first | (with_reducible first | exact HB.out | apply below_alloc | apply pw_below_drewN | apply below_drew1) | exact HB.out)⟩⟩
    · rw [if_neg c6] at H
      have c6b0 : decide ((t367.length : Int) < 5) = false := decide_eq_false c6
      have c6b1 : decide (t367.length < 5) = false := decide_eq_false (by omega)
      clear c6
      (first | rw [c6b0] | (simp only [i64_w, i32_w]; rw [c6b0]) | skip)
      have H' := Aside0.mk H
      clear H
      go_wp2
      go_meet
      case rel => exact ⟨_, (decide ((t367.length : Int) > 7)), (by first | rfl | (simp; done) | (simp [*]; done)), H', ⟨by first | omega | exact Nat.le_refl _⟩, ⟨by (with_reducible repeat (first | apply Kd.R_alloc | apply Kd.R_drewN | apply Kd.R_drew)); exact HO369.out⟩, ⟨by repeat (first | (with_reducible first | exact HB.out | apply below_alloc | apply pw_below_drewN | apply below_drew1) | exact HB.out)⟩⟩
  case rest =>
    clear HC3
    try clear p2
    try clear c3
    try clear c4
    try clear c6
    try clear c6b0
    try clear c6b1
    obtain ⟨kq, x16_2, rfl, HA, HJ2, HO_4, HB⟩ := hcut
    cases kq with
    | zero => exact absurd HA.out (by simp [gronx_Segments.j0])
    | succ kj2 =>
      have H := HA.out
      clear HA
      simp only [gronx_Segments.j0] at H
      by_cases c7 : x16_2 = true
      · subst c7
        have H1 : ((errors_New.f (⟨#[101, 120, 112, 114, 32, 115, 104, 111, 117, 108, 100, 32, 99, 111, 110, 116, 97, 105, 110, 32, 53, 45, 55, 32, 115, 101, 103, 109, 101, 110, 116, 115, 32, 115, 101, 112, 97, 114, 97, 116, 101, 100, 32, 98, 121, 32, 115, 112, 97, 99, 101]⟩ : ByteArray)).bind fun t373 => (some ((([] : List ByteArray)), t373))) = some (r1, r2) := by rw [if_pos rfl] at H; exact H
        clear H
        have H := H1
        clear H1
        obtain ⟨y370, hy370⟩ : ∃ y_ : List ByteArray, y_ = (([] : List ByteArray)) := ⟨_, rfl⟩
        replace H : ((errors_New.f (⟨#[101, 120, 112, 114, 32, 115, 104, 111, 117, 108, 100, 32, 99, 111, 110, 116, 97, 105, 110, 32, 53, 45, 55, 32, 115, 101, 103, 109, 101, 110, 116, 115, 32, 115, 101, 112, 97, 114, 97, 116, 101, 100, 32, 98, 121, 32, 115, 112, 97, 99, 101]⟩ : ByteArray)).bind fun t373 => (some (y370, t373))) = some (r1, r2) := by first | (rw [hy370]; with_reducible exact H) | (have H2_ := (Option.bind_some _ _).symm.trans H; rw [hy370]; with_reducible exact H2_) | (have H2_ := (Option.bind_some _ _).symm.trans H; with_reducible exact H2_) | with_reducible exact H | (rw [hy370]; exact H) | exact H
        have Ny370 := Aside0.mk hy370
        clear hy370
        replace H := Option.bind_eq_some_iff.mp H
        obtain ⟨t373, A80, H⟩ := H
        replace H : (some (y370, t373)) = some (r1, r2) := H
        have A8 := Aside0.mk A80
        clear A80
        simp only [Option.some.injEq, Prod.mk.injEq] at H
        obtain ⟨rfl, rfl⟩ := H
        go_wp2_with (first | ((with_reducible refine gate_dst (N := 17) rfl ?_); refine Kd.R_lit Kd.string _ 9 ?hg (N := 17) ?hd (xs := ([] : List ByteArray)) (inner := []) (ok := fun _ => True) (okp := fun _ => True) ?hr ?hp (fun _ hk => hk) trivial (Below.refl _ _) (Nat.le_refl _) (by simp) ?_; (case hd => rfl); (case hg => rfl); (case hr => first | (go_simp; done) | (go_simp; rfl)); (case hp => exact (Reps.none _ _)); intro v371 w9 ho10 hb hg_ hnew_; clear hg_ hnew_; (first | rw [← Ny370.out] at ho10 | (simp only [Int.reduceToNat] at ho10; rw [← Ny370.out] at ho10)); have n0_ := Aside0.mk (Kd.R_elder' (by (with_reducible repeat (first | apply Kd.R_alloc | apply Kd.R_drewN | apply Kd.R_drew)); exact HO_4.out) (Kd.R_base ho10) hb); have n1_ := Aside0.mk (Kd.R_lower (Kd.R_new' ho10 (Kd.R_lt (by (with_reducible repeat (first | apply Kd.R_alloc | apply Kd.R_drewN | apply Kd.R_drew)); exact HO_4.out))) (below_size (by repeat (first | (with_reducible first | exact HB.out | apply below_alloc | apply pw_below_drewN | apply below_drew1) | exact HB.out)))); have n2_ := Aside0.mk (below_step (by repeat (first | (with_reducible first | exact HB.out | apply below_alloc | apply pw_below_drewN | apply below_drew1) | exact HB.out)) hb); clear HO_4; clear HB; have HO_4 := n0_; have HO372 := n1_; have HB := n2_; clear n0_ n1_ n2_; clear hb ho10) | ((with_reducible refine gate_callee (f := 47) rfl ?_); refine goesL_ (some 18) rfl rfl Tryz.func47 (by kernel_rfl) rfl #[.string (⟨#[101, 120, 112, 114, 32, 115, 104, 111, 117, 108, 100, 32, 99, 111, 110, 116, 97, 105, 110, 32, 53, 45, 55, 32, 115, 101, 103, 109, 101, 110, 116, 115, 32, 115, 101, 112, 97, 114, 97, 116, 101, 100, 32, 98, 121, 32, 115, 112, 97, 99, 101]⟩ : ByteArray)] rfl (by (try simp only [List.map_toArray, List.map_cons, List.map_nil]); first | done | rfl | (simp only [List.length_drop, List.length_take]; rfl)) ?_; (with_reducible refine (errors_New.calls (⟨#[101, 120, 112, 114, 32, 115, 104, 111, 117, 108, 100, 32, 99, 111, 110, 116, 97, 105, 110, 32, 53, 45, 55, 32, 115, 101, 103, 109, 101, 110, 116, 115, 32, 115, 101, 112, 97, 114, 97, 116, 101, 100, 32, 98, 121, 32, 115, 112, 97, 99, 101]⟩ : ByteArray) t373 _ A8.out).mono ?_); rintro e w11 ⟨rfl, hb⟩; refine ⟨_, rfl, ?_⟩; have n0_ := Aside0.mk (Kd.R_below (by (with_reducible repeat (first | apply Kd.R_alloc | apply Kd.R_drewN | apply Kd.R_drew)); exact HO_4.out) hb); have n1_ := Aside0.mk (Kd.R_below (by (with_reducible repeat (first | apply Kd.R_alloc | apply Kd.R_drewN | apply Kd.R_drew)); exact HO372.out) hb); have n2_ := Aside0.mk (below_step (by repeat (first | (with_reducible first | exact HB.out | apply below_alloc | apply pw_below_drewN | apply below_drew1) | exact HB.out)) hb); clear HO_4; clear HO372; clear HB; have HO_4 := n0_; have HO372 := n1_; have HB := n2_; clear n0_ n1_ n2_; (try clear hb); (try clear hb2); (try clear hk); (try clear hi); (try simp only [errW_none, errW_some])))
        go_ret2
        exact ⟨_, by first | rfl | (simp [errW_none, errW_some] <;> rfl) | (simp [*, errW_none, errW_some] <;> rfl), by (with_reducible repeat (first | apply Kd.R_alloc | apply Kd.R_drewN | apply Kd.R_drew)); exact Kd.R_mono HO372.out (fun _ hk => trivial), by repeat (first | (with_reducible first | exact HB.out | apply below_alloc | apply pw_below_drewN | apply below_drew1) | exact HB.out)⟩
      · replace c7 := Bool.eq_false_iff.mpr c7
        subst c7
        have H1 : (if (t367.length : Int) = 5 then ((some (([(⟨#[48]⟩ : ByteArray)] : List ByteArray) : List ByteArray)).bind fun y374 => (if y374.length + t367.length < 8796093022208 then (some ((y374 ++ t367), none)) else (none))) else (if (t367.length : Int) = 6 then (if 5 < (t367.length : Int) then ((gronx_zzHasYear.f kj2 (rdOf ByteArray.empty t367 5)).bind fun t381 => (if t381 = true then ((some (([(⟨#[48]⟩ : ByteArray)] : List ByteArray) : List ByteArray)).bind fun y382 => (if y382.length + t367.length < 8796093022208 then (some ((y382 ++ t367), none)) else (none))) else (some (t367, none)))) else (none)) else (some (t367, none)))) = some (r1, r2) := by rw [if_neg (show ¬ (false = true) by decide)] at H; exact H
        clear H
        have H := H1
        clear H1
        by_cases c12 : (t367.length : Int) = 5
        · rw [if_pos c12] at H
          have c12b0 : ((t367.length : Int) == 5) = true := beq_iff_eq.mpr c12
          have c12b1 : ((t367.length : Int) != 5) = false := bne_eq_false_iff_eq.mpr c12
          clear c12
          obtain ⟨y374, hy374⟩ : ∃ y_ : List ByteArray, y_ = (([(⟨#[48]⟩ : ByteArray)] : List ByteArray)) := ⟨_, rfl⟩
          replace H : (if y374.length + t367.length < 8796093022208 then (some ((y374 ++ t367), none)) else (none)) = some (r1, r2) := by first | (rw [hy374]; with_reducible exact H) | (have H2_ := (Option.bind_some _ _).symm.trans H; rw [hy374]; with_reducible exact H2_) | (have H2_ := (Option.bind_some _ _).symm.trans H; with_reducible exact H2_) | with_reducible exact H | (rw [hy374]; exact H) | exact H
          have Ny374 := Aside0.mk hy374
          clear hy374
          by_cases c13 : y374.length + t367.length < 8796093022208
          · rw [if_pos c13] at H
            have LMc13 := Aside0.mk c13
            clear c13
            obtain ⟨y377, hy377⟩ : ∃ y_ : List ByteArray, y_ = (y374 ++ t367) := ⟨_, rfl⟩
            replace H : (some (y377, none)) = some (r1, r2) := by first | (rw [hy377]; with_reducible exact H) | (have H2_ := (Option.bind_some _ _).symm.trans H; rw [hy377]; with_reducible exact H2_) | (have H2_ := (Option.bind_some _ _).symm.trans H; with_reducible exact H2_) | with_reducible exact H | (rw [hy377]; exact H) | exact H
            have Ny377 := Aside0.mk hy377
            clear hy377
            simp only [Option.some.injEq, Prod.mk.injEq] at H
            obtain ⟨rfl, rfl⟩ := H
            go_wp2_with (first | ((with_reducible refine gate_dst (N := 32) rfl ?_); refine Kd.R_lit Kd.string _ 9 ?hg (N := 32) ?hd (xs := ([(⟨#[48]⟩ : ByteArray)] : List ByteArray)) (inner := [.string (⟨#[48]⟩ : ByteArray)]) (ok := fun _ => True) (okp := fun _ => True) ?hr ?hp (fun _ hk => hk) trivial (Below.refl _ _) (Nat.le_refl _) (by simp) ?_; (case hd => rfl); (case hg => rfl); (case hr => first | (go_simp; done) | (go_simp; rfl)); (case hp => exact (Reps.one (show Kd.M Kd.string _ _ _ (⟨#[48]⟩ : ByteArray) [.string (⟨#[48]⟩ : ByteArray)] from rfl) (Reps.none _ _))); intro v375 w14 ho15 hb hg_ hnew_; clear hg_ hnew_; (first | rw [← Ny374.out] at ho15 | (simp only [Int.reduceToNat] at ho15; rw [← Ny374.out] at ho15)); have n0_ := Aside0.mk (Kd.R_elder' (by (with_reducible repeat (first | apply Kd.R_alloc | apply Kd.R_drewN | apply Kd.R_drew)); exact HO_4.out) (Kd.R_base ho15) hb); have n1_ := Aside0.mk (Kd.R_lower (Kd.R_new' ho15 (Kd.R_lt (by (with_reducible repeat (first | apply Kd.R_alloc | apply Kd.R_drewN | apply Kd.R_drew)); exact HO_4.out))) (below_size (by repeat (first | (with_reducible first | exact HB.out | apply below_alloc | apply pw_below_drewN | apply below_drew1) | exact HB.out)))); have n2_ := Aside0.mk (below_step (by repeat (first | (with_reducible first | exact HB.out | apply below_alloc | apply pw_below_drewN | apply below_drew1) | exact HB.out)) hb); clear HO_4; clear HB; have HO_4 := n0_; have HO376 := n1_; have HB := n2_; clear n0_ n1_ n2_; clear hb ho15) | ((with_reducible refine gate_builtin (b := .append) (xs := #[.tmp 32, .tmp 33]) rfl ?_); at_builtin; refine Kd.R_append_rows Kd.string (w0 := w) w.heap.size rfl (.tmp 32) (.tmp 33) 55 9 (.string ⟨#[]⟩) 16 rfl Tryz.underlying55 info9 rfl (by decide) (by omega) v375 y374 t367 _ _ _ (fun k_ => some k_ ≠ (.slice Ao5 t367.length co5 : Value).ownBlock) (fun _ => False) rfl rfl ?aO ?aR (fun _ _ h => h) (fun _ h => h.elim) ?aF ?aB ?aS ?aL ?_; (case aR => repeat (first | exact (Kd.R_reads' HO_4.out).2.2 | (with_reducible refine Kd.C_alloc ?_ _) | (with_reducible refine Kd.C_drewN ?_ _) | (with_reducible refine Kd.C_drew ?_))); (case aB => exact (by repeat (first | (with_reducible first | exact HB.out | apply below_alloc | apply pw_below_drewN | apply below_drew1) | exact HB.out))); (case aF => exact (fun k_ hk => Kd.fresh' (Kd.R_lt (by (with_reducible repeat (first | apply Kd.R_alloc | apply Kd.R_drewN | apply Kd.R_drew)); exact HO_4.out)) k_ hk)); (case aO => exact (by (with_reducible repeat (first | apply Kd.R_alloc | apply Kd.R_drewN | apply Kd.R_drew)); exact Kd.R_mono HO376.out (fun _ hk => hk.2))); (case aS => exact (below_size (by repeat (first | (with_reducible first | exact HB.out | apply below_alloc | apply pw_below_drewN | apply below_drew1) | exact HB.out)))); (case aL => have := LMc13.out; omega); intro v378 w16 ho hb hg hat; rw [← Ny377.out] at ho; have n0_ := Aside0.mk (Kd.R_after (ok := (fun _ => True)) (by (with_reducible repeat (first | apply Kd.R_alloc | apply Kd.R_drewN | apply Kd.R_drew)); exact HO_4.out) hg hat); have n1_ := Aside0.mk (hb); have n2_ := Aside0.mk (ho); clear HO_4; clear HB; clear HO376; have HO_4 := n0_; have HB := n1_; have HO379 := n2_; clear n0_ n1_ n2_; clear ho hb hg hat))
            go_ret2
            exact ⟨_, by first | rfl | (simp [errW_none, errW_some] <;> rfl) | (simp [*, errW_none, errW_some] <;> rfl), by (with_reducible repeat (first | apply Kd.R_alloc | apply Kd.R_drewN | apply Kd.R_drew)); exact Kd.R_mono HO379.out (fun _ hk => trivial), by repeat (first | (with_reducible first | exact HB.out | apply below_alloc | apply pw_below_drewN | apply below_drew1) | exact HB.out)⟩
          · rw [if_neg c13] at H
            exact absurd H (by simp)
        · rw [if_neg c12] at H
          have c12b0 : ((t367.length : Int) == 5) = false := beq_eq_false_iff_ne.mpr c12
          have c12b1 : ((t367.length : Int) != 5) = true := bne_iff_ne.mpr c12
          by_cases c17 : (t367.length : Int) = 6
          · rw [if_pos c17] at H
            have c17b0 : ((t367.length : Int) == 6) = true := beq_iff_eq.mpr c17
            have c17b1 : ((t367.length : Int) != 6) = false := bne_eq_false_iff_eq.mpr c17
            clear c17
            by_cases c18 : 5 < (t367.length : Int)
            · rw [if_pos c18] at H
              have c18b0 : decide (5 < (t367.length : Int)) = true := decide_eq_true c18
              have c18b1 : decide (5 < t367.length) = true := decide_eq_true (by omega)
              clear c18
              replace H := Option.bind_eq_some_iff.mp H
              obtain ⟨t381, A190, H⟩ := H
              replace H : (if t381 = true then ((some (([(⟨#[48]⟩ : ByteArray)] : List ByteArray) : List ByteArray)).bind fun y382 => (if y382.length + t367.length < 8796093022208 then (some ((y382 ++ t367), none)) else (none))) else (some (t367, none))) = some (r1, r2) := H
              have A19 := Aside0.mk A190
              clear A190
              by_cases c20 : t381 = true
              · subst c20
                have H1 : ((some (([(⟨#[48]⟩ : ByteArray)] : List ByteArray) : List ByteArray)).bind fun y382 => (if y382.length + t367.length < 8796093022208 then (some ((y382 ++ t367), none)) else (none))) = some (r1, r2) := by rw [if_pos rfl] at H; exact H
                clear H
                have H := H1
                clear H1
                obtain ⟨y382, hy382⟩ : ∃ y_ : List ByteArray, y_ = (([(⟨#[48]⟩ : ByteArray)] : List ByteArray)) := ⟨_, rfl⟩
                replace H : (if y382.length + t367.length < 8796093022208 then (some ((y382 ++ t367), none)) else (none)) = some (r1, r2) := by first | (rw [hy382]; with_reducible exact H) | (have H2_ := (Option.bind_some _ _).symm.trans H; rw [hy382]; with_reducible exact H2_) | (have H2_ := (Option.bind_some _ _).symm.trans H; with_reducible exact H2_) | with_reducible exact H | (rw [hy382]; exact H) | exact H
                have Ny382 := Aside0.mk hy382
                clear hy382
                by_cases c21 : y382.length + t367.length < 8796093022208
                · rw [if_pos c21] at H
                  have LMc21 := Aside0.mk c21
                  clear c21
                  obtain ⟨y385, hy385⟩ : ∃ y_ : List ByteArray, y_ = (y382 ++ t367) := ⟨_, rfl⟩
                  replace H : (some (y385, none)) = some (r1, r2) := by first | (rw [hy385]; with_reducible exact H) | (have H2_ := (Option.bind_some _ _).symm.trans H; rw [hy385]; with_reducible exact H2_) | (have H2_ := (Option.bind_some _ _).symm.trans H; with_reducible exact H2_) | with_reducible exact H | (rw [hy385]; exact H) | exact H
                  have Ny385 := Aside0.mk hy385
                  clear hy385
                  simp only [Option.some.injEq, Prod.mk.injEq] at H
                  obtain ⟨rfl, rfl⟩ := H
                  have p380 : 0 ≤ (5 : Int) := (by omega)
                  have q380 : 5 < (t367.length : Int) := of_decide_eq_true (by first | (with_reducible assumption) | assumption)
                  obtain ⟨ad380, e380, hx380_0⟩ := Kd.at_string (Kd.R_reads' HO_4.out).2.2 5 p380 q380
                  cases e380
                  (try simp only [show (5 : Int).toNat = 5 from rfl, Nat.reduceMul, Nat.reduceEqDiff, Go.Addr.add, ↓reduceIte] at hx380_0)
                  have qi380 : (5 < t367.length) = True := eq_true (by omega)
                  (try rw [show ((5 : Int)).toNat = 5 from rfl] at hx380_0)
                  replace p380 := eq_true p380
                  replace q380 := eq_true q380
                  go_wp2_with (first | (go_at_call 48; (with_reducible refine (gronx_zzHasYear.calls kj2 (rdOf ByteArray.empty t367 5) true _ A19.out).mono ?_); rintro e w' ⟨rfl, ⟨nd, rfl⟩⟩) | ((with_reducible refine gate_dst (N := 32) rfl ?_); refine Kd.R_lit Kd.string _ 9 ?hg (N := 32) ?hd (xs := ([(⟨#[48]⟩ : ByteArray)] : List ByteArray)) (inner := [.string (⟨#[48]⟩ : ByteArray)]) (ok := fun _ => True) (okp := fun _ => True) ?hr ?hp (fun _ hk => hk) trivial (Below.refl _ _) (Nat.le_refl _) (by simp) ?_; (case hd => rfl); (case hg => rfl); (case hr => first | (go_simp; done) | (go_simp; rfl)); (case hp => exact (Reps.one (show Kd.M Kd.string _ _ _ (⟨#[48]⟩ : ByteArray) [.string (⟨#[48]⟩ : ByteArray)] from rfl) (Reps.none _ _))); intro v383 w22 ho23 hb hg_ hnew_; clear hg_ hnew_; (first | rw [← Ny382.out] at ho23 | (simp only [Int.reduceToNat] at ho23; rw [← Ny382.out] at ho23)); have n0_ := Aside0.mk (Kd.R_elder' (by (with_reducible repeat (first | apply Kd.R_alloc | apply Kd.R_drewN | apply Kd.R_drew)); exact HO_4.out) (Kd.R_base ho23) hb); have n1_ := Aside0.mk (Kd.R_lower (Kd.R_new' ho23 (Kd.R_lt (by (with_reducible repeat (first | apply Kd.R_alloc | apply Kd.R_drewN | apply Kd.R_drew)); exact HO_4.out))) (below_size (by repeat (first | (with_reducible first | exact HB.out | apply below_alloc | apply pw_below_drewN | apply below_drew1) | exact HB.out)))); have n2_ := Aside0.mk (below_step (by repeat (first | (with_reducible first | exact HB.out | apply below_alloc | apply pw_below_drewN | apply below_drew1) | exact HB.out)) hb); clear HO_4; clear HB; have HO_4 := n0_; have HO384 := n1_; have HB := n2_; clear n0_ n1_ n2_; clear hb ho23) | ((with_reducible refine gate_builtin (b := .append) (xs := #[.tmp 32, .tmp 33]) rfl ?_); at_builtin; refine Kd.R_append_rows Kd.string (w0 := w) w.heap.size rfl (.tmp 32) (.tmp 33) 55 9 (.string ⟨#[]⟩) 16 rfl Tryz.underlying55 info9 rfl (by decide) (by omega) v383 y382 t367 _ _ _ (fun k_ => some k_ ≠ (.slice (some ad380) t367.length co5 : Value).ownBlock) (fun _ => False) rfl rfl ?aO ?aR (fun _ _ h => h) (fun _ h => h.elim) ?aF ?aB ?aS ?aL ?_; (case aR => repeat (first | exact (Kd.R_reads' HO_4.out).2.2 | (with_reducible refine Kd.C_alloc ?_ _) | (with_reducible refine Kd.C_drewN ?_ _) | (with_reducible refine Kd.C_drew ?_))); (case aB => exact (by repeat (first | (with_reducible first | exact HB.out | apply below_alloc | apply pw_below_drewN | apply below_drew1) | exact HB.out))); (case aF => exact (fun k_ hk => Kd.fresh' (Kd.R_lt (by (with_reducible repeat (first | apply Kd.R_alloc | apply Kd.R_drewN | apply Kd.R_drew)); exact HO_4.out)) k_ hk)); (case aO => exact (by (with_reducible repeat (first | apply Kd.R_alloc | apply Kd.R_drewN | apply Kd.R_drew)); exact Kd.R_mono HO384.out (fun _ hk => hk.2))); (case aS => exact (below_size (by repeat (first | (with_reducible first | exact HB.out | apply below_alloc | apply pw_below_drewN | apply below_drew1) | exact HB.out)))); (case aL => have := LMc21.out; omega); intro v386 w24 ho hb hg hat; rw [← Ny385.out] at ho; have n0_ := Aside0.mk (Kd.R_after (ok := (fun _ => True)) (by (with_reducible repeat (first | apply Kd.R_alloc | apply Kd.R_drewN | apply Kd.R_drew)); exact HO_4.out) hg hat); have n1_ := Aside0.mk (hb); have n2_ := Aside0.mk (ho); clear HO_4; clear HB; clear HO384; have HO_4 := n0_; have HB := n1_; have HO387 := n2_; clear n0_ n1_ n2_; clear ho hb hg hat))
                  go_ret2
                  exact ⟨_, by first | rfl | (simp [errW_none, errW_some] <;> rfl) | (simp [*, errW_none, errW_some] <;> rfl), by (with_reducible repeat (first | apply Kd.R_alloc | apply Kd.R_drewN | apply Kd.R_drew)); exact Kd.R_mono HO387.out (fun _ hk => trivial), by repeat (first | (with_reducible first | exact HB.out | apply below_alloc | apply pw_below_drewN | apply below_drew1) | exact HB.out)⟩
                · rw [if_neg c21] at H
                  exact absurd H (by simp)
              · replace c20 := Bool.eq_false_iff.mpr c20
                subst c20
                have H1 : (some (t367, none)) = some (r1, r2) := by rw [if_neg (show ¬ (false = true) by decide)] at H; exact H
                clear H
                have H := H1
                clear H1
                simp only [Option.some.injEq, Prod.mk.injEq] at H
                obtain ⟨rfl, rfl⟩ := H
                have p380 : 0 ≤ (5 : Int) := (by omega)
                have q380 : 5 < (t367.length : Int) := of_decide_eq_true (by first | (with_reducible assumption) | assumption)
                obtain ⟨ad380, e380, hx380_0⟩ := Kd.at_string (Kd.R_reads' HO_4.out).2.2 5 p380 q380
                cases e380
                (try simp only [show (5 : Int).toNat = 5 from rfl, Nat.reduceMul, Nat.reduceEqDiff, Go.Addr.add, ↓reduceIte] at hx380_0)
                have qi380 : (5 < t367.length) = True := eq_true (by omega)
                (try rw [show ((5 : Int)).toNat = 5 from rfl] at hx380_0)
                replace p380 := eq_true p380
                replace q380 := eq_true q380
                go_wp2_with (first | (go_at_call 48; (with_reducible refine (gronx_zzHasYear.calls kj2 (rdOf ByteArray.empty t367 5) false _ A19.out).mono ?_); rintro e w' ⟨rfl, ⟨nd, rfl⟩⟩))
                go_ret2
                exact ⟨_, by first | rfl | (simp [errW_none, errW_some] <;> rfl) | (simp [*, errW_none, errW_some] <;> rfl), by (with_reducible repeat (first | apply Kd.R_alloc | apply Kd.R_drewN | apply Kd.R_drew)); exact HO_4.out, by repeat (first | (with_reducible first | exact HB.out | apply below_alloc | apply pw_below_drewN | apply below_drew1) | exact HB.out)⟩
            · rw [if_neg c18] at H
              exact absurd H (by simp)
          · rw [if_neg c17] at H
            have c17b0 : ((t367.length : Int) == 6) = false := beq_eq_false_iff_ne.mpr c17
            have c17b1 : ((t367.length : Int) != 6) = true := bne_iff_ne.mpr c17
            simp only [Option.some.injEq, Prod.mk.injEq] at H
            obtain ⟨rfl, rfl⟩ := H
            go_wp2
            go_ret2
            exact ⟨_, by first | rfl | (simp [errW_none, errW_some] <;> rfl) | (simp [*, errW_none, errW_some] <;> rfl), by (with_reducible repeat (first | apply Kd.R_alloc | apply Kd.R_drewN | apply Kd.R_drew)); exact HO_4.out, by repeat (first | (with_reducible first | exact HB.out | apply below_alloc | apply pw_below_drewN | apply below_drew1) | exact HB.out)⟩
end Go.Proofs.YtemgofomhjabpaaGreatDoor.Core
namespace Go.Proofs.YtemgofomhjabpaaGreatDoor.Core
open Go.RowKit Go.Proofs.YtemgofomhjabpaaGreatDoorW.PrintWords Go.Proofs.YtemgofomhjabpaaGreatDoorW.PrintLast Go.Proofs.YtemgofomhjabpaaGreatDoorW.PrintMore
attribute [local go_sem] max2_int min2_int max_two min_two max_three min_three max_four min_four   -- for this text's walks alone
set_option linter.unusedVariables false
set_option linter.unusedSimpArgs false
end Go.Proofs.YtemgofomhjabpaaGreatDoor.Core
namespace Go.Proofs.YtemgofomhjabpaaGreatDoor.Core
open Go.RowKit Go.Proofs.YtemgofomhjabpaaGreatDoorW.PrintWords
def idxL (m : List UInt8) : List UInt8 → Nat → Int
  | [], _ => -1
  | b :: t, i => if m.length ≤ t.length + 1 then (if (b :: t).take m.length = m then (i : Int) else idxL m t (i + 1)) else -1
theorem zzIndex_from (l m : List UInt8) (hm : m ≠ []) (hl : l.length < 4611686018427387904) (hml : m.length < 4611686018427387904) :
    ∀ (rest : List UInt8) (i : Nat), l.drop i = rest → i ≤ l.length → Ev (fun k => gronx_zzIndex.l0 k (B l) (B m) (i : Int)) (idxL m rest i) := by
  have hm0 : 0 < m.length := List.length_pos_iff.2 hm
  intro rest
  induction rest with
  | nil =>
    intro i hi hil
    have hlen : l.length ≤ i := List.drop_eq_nil_iff.1 hi
    refine Ev.done fun k => ?_
    simp only [gronx_zzIndex.l0, B_size]
    rw [wrap64_id (by omega) (by omega), if_neg (by omega)]
    rfl
  | cons b t ih =>
    intro i hi hil
    have hlen : t.length + 1 = l.length - i := by have := congrArg List.length hi; simpa using this.symm
    unfold idxL
    by_cases h1 : m.length ≤ t.length + 1
    · rw [if_pos h1]
      have hcut : (B l).extract ((i : Int)).toNat (((i : Int) + (m.length : Int))).toNat = B ((b :: t).take m.length) := by
        rw [B_cut, show ((i : Int)).toNat = i by omega, hi, show (((i : Int) + (m.length : Int))).toNat - i = m.length by omega]
      by_cases h2 : (b :: t).take m.length = m
      · rw [if_pos h2]
        refine Ev.done fun k => ?_
        simp only [gronx_zzIndex.l0, B_size]
        rw [wrap64_id (by omega) (by omega), if_pos (by omega), if_pos (by omega), if_pos (by omega), hcut, B_list, B_list, if_pos h2]
      · rw [if_neg h2]
        refine Ev.step (f := fun k => gronx_zzIndex.l0 k (B l) (B m) ((i + 1 : Nat) : Int)) (fun k => ?_) (ih (i + 1) ?_ (by omega))
        · simp only [gronx_zzIndex.l0, B_size]
          rw [wrap64_id (by omega) (by omega), if_pos (by omega), if_pos (by omega), if_pos (by omega), hcut, B_list, B_list, if_neg h2, wrap64_nat i (by omega)]
        · rw [← List.drop_drop, hi]; rfl
    · rw [if_neg h1]
      refine Ev.done fun k => ?_
      simp only [gronx_zzIndex.l0, B_size]
      rw [wrap64_id (by omega) (by omega), if_neg (by omega)]
theorem zzIndex_ev (l m : List UInt8) (hm : m ≠ []) (hl : l.length < 4611686018427387904) (hml : m.length < 4611686018427387904) :
    Ev (fun k => gronx_zzIndex.f k (B l) (B m)) (idxL m l 0) := zzIndex_from l m hm hl hml l 0 rfl (Nat.zero_le _)
theorem idxL_one_none (c : UInt8) (l : List UInt8) (h : c ∉ l) (i : Nat) : idxL [c] l i = -1 := by
  induction l generalizing i with
  | nil => rfl
  | cons b t ih =>
    unfold idxL
    rw [if_pos (by simp), if_neg (by simp; intro e; exact h (by simp [e])), ih (fun e => h (by simp [e]))]
theorem idxL_one_at (c : UInt8) (p r : List UInt8) (h : c ∉ p) (i : Nat) : idxL [c] (p ++ c :: r) i = ((i + p.length : Nat) : Int) := by
  induction p generalizing i with
  | nil => simp [idxL]
  | cons b t ih =>
    rw [List.cons_append]
    unfold idxL
    rw [if_pos (by simp), if_neg (by simp; intro e; exact h (by simp [e])), ih (fun e => h (by simp [e]))]
    simp
    omega
def splitL (c : UInt8) : List UInt8 → List (List UInt8)
  | [] => [[]]
  | b :: t => if b = c then [] :: splitL c t else match splitL c t with | [] => [[b]] | h :: r => (b :: h) :: r
theorem splitL_none (c : UInt8) (l : List UInt8) (h : c ∉ l) : splitL c l = [l] := by
  induction l with
  | nil => rfl
  | cons b t ih => rw [splitL, if_neg (fun e => h (by simp [e])), ih (fun e => h (by simp [e]))]
theorem splitL_at (c : UInt8) (p r : List UInt8) (h : c ∉ p) : splitL c (p ++ c :: r) = p :: splitL c r := by
  induction p with
  | nil => simp [splitL]
  | cons b t ih => rw [List.cons_append, splitL, if_neg (fun e => h (by simp [e])), ih (fun e => h (by simp [e]))]
theorem mem_cut {c : UInt8} {l : List UInt8} (h : c ∈ l) : ∃ p r, l = p ++ c :: r ∧ c ∉ p := by
  induction l with
  | nil => cases h
  | cons b t ih =>
    by_cases e : b = c
    · exact ⟨[], t, by simp [e], by simp⟩
    · obtain ⟨p, r, rfl, hp⟩ := ih (by rcases List.mem_cons.1 h with h | h; exact absurd h.symm e; exact h)
      exact ⟨b :: p, r, rfl, by simp [hp, Ne.symm e]⟩
theorem zzSplit_from (c : UInt8) : ∀ (n : Nat) (l : List UInt8) (acc : List ByteArray), l.length ≤ n → l.length + acc.length < 8796093022208 →
    Ev (fun k => gronx_zzSplit.l0 k (B l) (B [c]) acc) (acc ++ (splitL c l).map B) := by
  intro n
  induction n with
  | zero =>
    intro l acc hn hb
    obtain rfl : l = [] := List.eq_nil_of_length_eq_zero (by omega)
    have hix := zzIndex_ev [] [c] (by simp) (by simp) (by simp)
    refine Ev.step (f := fun k => (gronx_zzIndex.f k (B []) (B [c])).bind fun t => if t < 0 then some (acc ++ [B []]) else none) (fun k => ?_) (Ev.bind hix (Ev.const (by simp [idxL, splitL])))
    simp only [gronx_zzSplit.l0]
    cases gronx_zzIndex.f k (B []) (B [c]) with
    | none => rfl
    | some t =>
      simp only [Option.bind_some]
      by_cases h : t < 0
      · rw [if_pos h, if_pos h, if_pos (by omega)]
      · rw [if_neg h, if_neg h, if_pos (by omega)]
        by_cases h2 : t ≤ ((B []).size : Int)
        · have h3 : t = 0 := by rw [B_size] at h2; simp at h2; omega
          subst h3
          rw [if_pos h2, if_pos (by omega), B_size, B_size, wrap64_id (by simp) (by simp), if_pos (by simp), if_neg (by simp)]
        · rw [if_neg h2]
  | succ n ih =>
    intro l acc hn hb
    by_cases hc : c ∈ l
    · obtain ⟨p, r, rfl, hp⟩ := mem_cut hc
      have hlen : (p ++ c :: r).length = p.length + 1 + r.length := by simp; omega
      have hix := zzIndex_ev (p ++ c :: r) [c] (by simp) (by omega) (by simp)
      rw [idxL_one_at c p r hp] at hix
      rw [splitL_at c p r hp]
      have hrec := ih r (acc ++ [B p]) (by omega) (by simp; omega)
      refine Ev.step (f := fun k => (gronx_zzIndex.f k (B (p ++ c :: r)) (B [c])).bind fun t => if t = ((0 + p.length : Nat) : Int) then gronx_zzSplit.l0 k (B r) (B [c]) (acc ++ [B p]) else gronx_zzSplit.l0 (k + 1) (B (p ++ c :: r)) (B [c]) acc) (fun k => ?_) (Ev.bind hix ?_)
      · cases hg : gronx_zzIndex.f k (B (p ++ c :: r)) (B [c]) with
        | none => simp only [gronx_zzSplit.l0, hg]; rfl
        | some t =>
          simp only [Option.bind_some]
          by_cases h : t = ((0 + p.length : Nat) : Int)
          · rw [if_pos h]
            subst h
            simp only [gronx_zzSplit.l0, hg, Option.bind_some, B_size]
            rw [if_neg (by omega), if_pos (by omega), if_pos (by rw [hlen]; omega), if_pos (by omega), wrap64_id (by simp; omega) (by simp; omega), if_pos (by simp; omega), if_pos (by rw [hlen]; simp; omega)]
            congr 1
            · rw [B_cut]
              congr 1
              simp only [Nat.zero_add, List.length_singleton]
              rw [show ((p.length : Int) + ((1 : Nat) : Int)).toNat = p.length + 1 by omega, List.drop_append, List.drop_eq_nil_of_le (by omega), show p.length + 1 - p.length = 1 by omega]
              simp only [List.nil_append, List.drop_succ_cons, List.drop_zero]
              exact List.take_of_length_le (by omega)
            · rw [B_cut]
              congr 3
              simp
          · rw [if_neg h]
      · refine Ev.congr (f := fun k => gronx_zzSplit.l0 k (B r) (B [c]) (acc ++ [B p])) (fun k => by rw [if_pos rfl]) ?_
        simpa using hrec
    · have hix := zzIndex_ev l [c] (by simp) (by omega) (by simp)
      rw [idxL_one_none c l hc] at hix
      rw [splitL_none c l hc]
      refine Ev.step (f := fun k => (gronx_zzIndex.f k (B l) (B [c])).bind fun t => if t < 0 then some (acc ++ [B l]) else gronx_zzSplit.l0 (k + 1) (B l) (B [c]) acc) (fun k => ?_) (Ev.bind hix (Ev.const (by simp)))
      cases hg : gronx_zzIndex.f k (B l) (B [c]) with
      | none => simp only [gronx_zzSplit.l0, hg]; rfl
      | some t =>
        simp only [Option.bind_some]
        by_cases h : t < 0
        · rw [if_pos h]; simp only [gronx_zzSplit.l0, hg, Option.bind_some]; rw [if_pos h, if_pos (by omega)]
        · rw [if_neg h]
theorem zzSplit_ev (c : UInt8) (l : List UInt8) (h : l.length < 8796093022208) : Ev (fun k => gronx_zzSplit.f k (B l) (B [c])) ((splitL c l).map B) := by
  have := zzSplit_from c l.length l [] (Nat.le_refl _) (by simpa using h)
  rw [List.nil_append] at this
  exact this
theorem zzReplace_no (l m q : List UInt8) (hm : m ≠ []) (hml : m.length < 4611686018427387904) (h : idxL m l 0 = -1) (hl : l.length < 140737488355328) :
    Ev (fun k => gronx_zzReplaceAll.f k (B l) (B m) (B q)) (B l) := by
  have hix := zzIndex_ev l m hm (by omega) hml
  rw [h] at hix
  unfold gronx_zzReplaceAll.f
  refine Ev.step (f := fun k => (gronx_zzIndex.f k (B l) (B m)).bind fun t => if t < 0 then some (B l) else gronx_zzReplaceAll.l0 (k + 1) (B l) (B m) (B q) []) (fun k => ?_) (Ev.bind hix (Ev.const (by simp)))
  cases hg : gronx_zzIndex.f k (B l) (B m) with
  | none => simp only [gronx_zzReplaceAll.l0, hg]; rfl
  | some t =>
    simp only [Option.bind_some]
    by_cases h : t < 0
    · rw [if_pos h]; simp only [gronx_zzReplaceAll.l0, hg, Option.bind_some]; rw [if_pos h, if_pos (by simp [B_size]; omega), List.nil_append, B_bytesOf, strOfNums_B]
    · rw [if_neg h]
theorem zzTrim_ev (l : List UInt8) (hl : l.length < 4611686018427387904) (hne : l ≠ []) (h0 : ∀ b, l.head? = some b → b ≠ 32 ∧ b ≠ 9) (h1 : ∀ b, l.getLast? = some b → b ≠ 32 ∧ b ≠ 9) :
    Ev (fun k => gronx_zzTrim.f k (B l)) (B l) := by
  have hpos : 0 < l.length := List.length_pos_iff.2 hne
  have hU : ∀ b : UInt8, b ≠ 32 → ¬ (b.toNat : Int) = 32 := fun b hb e => hb (UInt8.toNat_inj.1 (show b.toNat = 32 by omega))
  have hV : ∀ b : UInt8, b ≠ 9 → ¬ (b.toNat : Int) = 9 := fun b hb e => hb (UInt8.toNat_inj.1 (show b.toNat = 9 by omega))
  have e0 : bt (B l) 0 = ((l[0]'hpos).toNat : Int) := bt_B_at l 0 hpos
  have e1 : bt (B l) ((l.length : Int) - 1) = ((l[l.length - 1]'(by omega)).toNat : Int) := by
    have := bt_B_at l (l.length - 1) (by omega)
    rwa [show ((l.length - 1 : Nat) : Int) = (l.length : Int) - 1 by omega] at this
  have a0 := h0 (l[0]'hpos) (by rw [List.head?_eq_getElem?, List.getElem?_eq_getElem hpos])
  have a1 := h1 (l[l.length - 1]'(by omega)) (by rw [List.getLast?_eq_getElem?, List.getElem?_eq_getElem (by omega)])
  unfold gronx_zzTrim.f
  refine Ev.step (f := fun k => gronx_zzTrim.j1 k (B l)) (fun k => ?_) (Ev.step (f := fun k => gronx_zzTrim.l1 k (B l)) (fun k => by simp only [gronx_zzTrim.j1]) (Ev.done fun k => ?_))
  · simp only [gronx_zzTrim.l0, B_size]
    rw [if_pos (by omega), if_pos (by omega), e0, if_neg (hU _ a0.1), if_neg (hV _ a0.2)]
  · simp only [gronx_zzTrim.l1, B_size]
    rw [if_pos (by omega), wrap64_id (by omega) (by omega), if_pos (by omega), if_pos (by omega), e1, if_neg (hU _ a1.1), if_neg (hV _ a1.2)]
def noDbl : List UInt8 → Bool
  | a :: b :: t => !(a == 32 && b == 32) && noDbl (b :: t)
  | _ => true
theorem noDbl_idx (l : List UInt8) (h : noDbl l = true) (i : Nat) : idxL [32, 32] l i = -1 := by
  induction l generalizing i with
  | nil => rfl
  | cons a t ih =>
    unfold idxL
    cases t with
    | nil => rw [if_neg (by simp)]
    | cons b t =>
      simp only [noDbl, Bool.and_eq_true, Bool.not_eq_true', Bool.and_eq_false_iff] at h
      rw [if_pos (by simp), if_neg ?_, ih h.2]
      intro e
      simp at e
      rcases h.1 with h1 | h1
      · simp [e.1] at h1
      · simp [e.2] at h1
def plainB (b : UInt8) : Bool := b == 32 || (decide (33 ≤ b.toNat) && decide (b.toNat ≤ 63))
theorem noDbl_at (l : List UInt8) (h : noDbl l = true) (i : Nat) (h1 : i + 1 < l.length) (e : l[i]'(by omega) = 32) : l[i + 1] ≠ 32 := by
  induction l generalizing i with
  | nil => simp at h1
  | cons a t ih =>
    cases t with
    | nil => simp at h1
    | cons b t =>
      simp only [noDbl, Bool.and_eq_true, Bool.not_eq_true', Bool.and_eq_false_iff] at h
      cases i with
      | zero =>
        simp at e
        subst e
        intro e2
        simp at e2
        subst e2
        simp at h
      | succ i => exact ih h.2 i (by simpa using h1) (by simpa using e)
theorem zzSpaces_from (l : List UInt8) (hl : l.length < 140737488355328) (hd : noDbl l = true) (hp : ∀ b ∈ l, plainB b = true) :
    ∀ (d i : Nat), l.length - i = d → i ≤ l.length → ∀ (inn : Bool), (inn = true → ∃ h : 0 < i ∧ i ≤ l.length, l[i - 1]'(by omega) = 32) →
      Ev (fun k => gronx_zzSpaces.l0 k (B l) ((l.take i).map fun b => (b.toNat : Int)) inn (i : Int)) (B l) := by
  intro d
  induction d with
  | zero =>
    intro i hd' hi inn hin
    refine Ev.done fun k => ?_
    simp only [gronx_zzSpaces.l0, B_size]
    rw [if_neg (by omega), strOfNums_B, List.take_of_length_le (by omega)]
  | succ d ih =>
    intro i hd' hi inn hin
    have hlt : i < l.length := by omega
    have hb := hp _ (List.getElem_mem hlt)
    have hbt := bt_B_at l i hlt
    have htake : (l.take (i + 1)).map (fun b => (b.toNat : Int)) = (l.take i).map (fun b => (b.toNat : Int)) ++ [(l[i].toNat : Int)] := by
      rw [List.take_succ_eq_append_getElem hlt, List.map_append]; rfl
    by_cases hs : l[i] = 32
    · have hin0 : inn = false := by
        cases inn with
        | false => rfl
        | true =>
          obtain ⟨hh, e⟩ := hin rfl
          have := noDbl_at l hd (i - 1) (by omega) e
          simp only [show i - 1 + 1 = i by omega] at this
          exact absurd hs this
      subst hin0
      refine Ev.step (f := fun k => gronx_zzSpaces.j1 k (B l) ((l.take i).map fun b => (b.toNat : Int)) false (i : Int) true) (fun k => ?_) ?_
      · simp only [gronx_zzSpaces.l0, B_size]
        rw [if_pos (by omega), if_pos (by omega), hbt, hs, if_pos (by rfl)]
        rfl
      · refine Ev.step (f := fun k => gronx_zzSpaces.l0 k (B l) ((l.take (i + 1)).map fun b => (b.toNat : Int)) true ((i + 1 : Nat) : Int)) (fun k => ?_) (ih (i + 1) (by omega) (by omega) true (fun _ => ⟨⟨by omega, by omega⟩, by simpa using hs⟩))
        simp only [gronx_zzSpaces.j1]
        rw [if_pos trivial, if_neg (by simp), if_pos (by simp; omega), wrap64_nat i (by omega), htake, hs]
        rfl
    · have hge : 33 ≤ l[i].toNat ∧ l[i].toNat ≤ 63 := by
        simp only [plainB, Bool.or_eq_true, beq_iff_eq, Bool.and_eq_true, decide_eq_true_eq] at hb
        rcases hb with hb | hb
        · exact absurd hb hs
        · exact hb
      refine Ev.step (f := fun k => gronx_zzSpaces.j1 k (B l) ((l.take i).map fun b => (b.toNat : Int)) inn (i : Int) false) (fun k => ?_) ?_
      · simp only [gronx_zzSpaces.l0, B_size]
        rw [if_pos (by omega), if_pos (by omega), hbt, if_neg (by omega), if_neg (by omega), if_neg (by omega), if_neg (by omega), show ((l[i].toNat : Int) == 13) = false by simp; omega]
      · refine Ev.step (f := fun k => gronx_zzSpaces.l0 k (B l) ((l.take (i + 1)).map fun b => (b.toNat : Int)) false ((i + 1 : Nat) : Int)) (fun k => ?_) (ih (i + 1) (by omega) (by omega) false (by simp))
        simp only [gronx_zzSpaces.j1, B_size]
        rw [if_neg (by simp), if_pos (by omega), if_pos (by omega), if_pos (by simp; omega), wrap64_nat i (by omega), htake, hbt]
theorem zzSpaces_ev (l : List UInt8) (hl : l.length < 140737488355328) (hd : noDbl l = true) (hp : ∀ b ∈ l, plainB b = true) : Ev (fun k => gronx_zzSpaces.f k (B l)) (B l) := by
  have := zzSpaces_from l hl hd hp l.length 0 (by simp) (by omega) false (by simp)
  simpa [gronx_zzSpaces.f] using this
theorem literal_no (l : List UInt8) (h : ∀ b ∈ l, b.toNat ≤ 63) : gronx_literal.f (B l) = some (B []) := by
  have hne : ∀ (c d e : UInt8), 65 ≤ c.toNat → ¬ l = [c, d, e] := by
    intro c d e hc heq
    have := h c (by simp [heq])
    omega
  unfold gronx_literal.f
  simp only [B_list]
  repeat rw [if_neg (hne _ _ _ (by decide))]
  rfl
theorem zzLiterals_from (l : List UInt8) (hl : l.length < 140737488355328) (hp : ∀ b ∈ l, b.toNat ≤ 63) :
    ∀ (d i : Nat), l.length - i = d → i ≤ l.length → Ev (fun k => gronx_zzLiterals.l0 k (B l) ((l.take i).map fun b => (b.toNat : Int)) (i : Int)) (B l) := by
  intro d
  induction d with
  | zero =>
    intro i hd' hi
    refine Ev.done fun k => ?_
    simp only [gronx_zzLiterals.l0, B_size]
    rw [if_neg (by omega), strOfNums_B, List.take_of_length_le (by omega)]
  | succ d ih =>
    intro i hd' hi
    have hlt : i < l.length := by omega
    have hbt := bt_B_at l i hlt
    have htake : (l.take (i + 1)).map (fun b => (b.toNat : Int)) = (l.take i).map (fun b => (b.toNat : Int)) ++ [(l[i].toNat : Int)] := by
      rw [List.take_succ_eq_append_getElem hlt, List.map_append]; rfl
    refine Ev.step (f := fun k => gronx_zzLiterals.l0 k (B l) ((l.take (i + 1)).map fun b => (b.toNat : Int)) ((i + 1 : Nat) : Int)) (fun k => ?_) (ih (i + 1) (by omega) (by omega))
    simp only [gronx_zzLiterals.l0, B_size]
    rw [if_pos (by omega), wrap64_id (i := (i : Int) + 3) (by omega) (by omega)]
    by_cases h3 : i + 3 ≤ l.length
    · rw [if_pos (by omega), if_pos (by omega), if_pos (by omega), B_cut, literal_no _ (fun b hb => hp b (List.mem_of_mem_drop (List.mem_of_mem_take hb)))]
      simp only [Option.bind_some]
      rw [B_list, if_pos rfl, if_pos (by simp; omega), wrap64_nat i (by omega), htake, hbt]
    · rw [if_neg (by omega), if_pos (by omega), if_pos (by simp; omega), wrap64_nat i (by omega), htake, hbt]
theorem zzLiterals_ev (l : List UInt8) (hl : l.length < 140737488355328) (hp : ∀ b ∈ l, b.toNat ≤ 63) : Ev (fun k => gronx_zzLiterals.f k (B l)) (B l) := by
  have := zzLiterals_from l hl hp l.length 0 (by simp) (by omega)
  simpa [gronx_zzLiterals.f] using this
def hasYr : List UInt8 → Nat → Bool
  | [], _ => false
  | b :: t, n => if b.toNat < 48 ∨ 57 < b.toNat then hasYr t 0 else if n + 1 = 4 then true else hasYr t (n + 1)
theorem zzHasYear_from (l : List UInt8) (hl : l.length < 4611686018427387904) :
    ∀ (rest : List UInt8) (i n : Nat), l.drop i = rest → i ≤ l.length → n < 4 → Ev (fun k => gronx_zzHasYear.l0 k (B l) (n : Int) (i : Int)) (hasYr rest n) := by
  intro rest
  induction rest with
  | nil =>
    intro i n hi hil hn
    have hlen : l.length ≤ i := List.drop_eq_nil_iff.1 hi
    refine Ev.done fun k => ?_
    simp only [gronx_zzHasYear.l0, B_size]
    rw [if_neg (by omega)]
    rfl
  | cons b t ih =>
    intro i n hi hil hn
    have hlt : i < l.length := by
      rcases Nat.lt_or_ge i l.length with h | h
      · exact h
      · rw [List.drop_eq_nil_of_le h] at hi; cases hi
    have hbi : l[i] = b := by
      have := List.drop_eq_getElem_cons hlt
      rw [hi] at this
      exact (List.cons.inj this).1.symm
    have ht : l.drop (i + 1) = t := by rw [← List.drop_drop, hi]; rfl
    have hbt := bt_B_at l i hlt
    rw [hbi] at hbt
    unfold hasYr
    by_cases h1 : b.toNat < 48 ∨ 57 < b.toNat
    · rw [if_pos h1]
      refine Ev.step (f := fun k => gronx_zzHasYear.j1 k (B l) (n : Int) (i : Int) true) (fun k => ?_) (Ev.step (f := fun k => gronx_zzHasYear.l0 k (B l) ((0 : Nat) : Int) ((i + 1 : Nat) : Int)) (fun k => ?_) (ih (i + 1) 0 ht (by omega) (by omega)))
      · simp only [gronx_zzHasYear.l0, B_size]
        rw [if_pos (by omega), if_pos (by omega), hbt]
        by_cases h2 : (b.toNat : Int) < 48
        · rw [if_pos h2]
        · rw [if_neg h2, show decide ((b.toNat : Int) > 57) = true from decide_eq_true (by omega)]
      · simp only [gronx_zzHasYear.j1]
        rw [if_pos trivial, wrap64_nat i (by omega)]
        rfl
    · rw [if_neg h1]
      by_cases h2 : n + 1 = 4
      · rw [if_pos h2]
        refine Ev.step (f := fun k => gronx_zzHasYear.j1 k (B l) (n : Int) (i : Int) false) (fun k => ?_) (Ev.done fun k => ?_)
        · simp only [gronx_zzHasYear.l0, B_size]
          rw [if_pos (by omega), if_pos (by omega), hbt, if_neg (by omega), show decide ((b.toNat : Int) > 57) = false from decide_eq_false (by omega)]
        · simp only [gronx_zzHasYear.j1]
          rw [if_neg (by simp), wrap64_nat n (by omega), if_pos (by omega)]
      · rw [if_neg h2]
        refine Ev.step (f := fun k => gronx_zzHasYear.j1 k (B l) (n : Int) (i : Int) false) (fun k => ?_) (Ev.step (f := fun k => gronx_zzHasYear.l0 k (B l) ((n + 1 : Nat) : Int) ((i + 1 : Nat) : Int)) (fun k => ?_) (ih (i + 1) (n + 1) ht (by omega) (by omega)))
        · simp only [gronx_zzHasYear.l0, B_size]
          rw [if_pos (by omega), if_pos (by omega), hbt, if_neg (by omega), show decide ((b.toNat : Int) > 57) = false from decide_eq_false (by omega)]
        · simp only [gronx_zzHasYear.j1]
          rw [if_neg (by simp), wrap64_nat n (by omega), if_neg (by omega), wrap64_nat i (by omega)]
theorem zzHasYear_ev (l : List UInt8) (hl : l.length < 4611686018427387904) : Ev (fun k => gronx_zzHasYear.f k (B l)) (hasYr l 0) := by
  have := zzHasYear_from l hl l 0 0 rfl (Nat.zero_le _) (by omega)
  simpa [gronx_zzHasYear.f] using this
theorem toLower_plain (l : List UInt8) (hl : l.length ≤ 140737488355328) (hp : ∀ b ∈ l, b.toNat ≤ 63) : strings_ToLower.f (B l) = some (B l) := by
  unfold strings_ToLower.f
  rw [B_size, if_pos hl, if_pos (by unfold isAscii; rw [B_data, List.all_eq_true]; intro b hb; exact decide_eq_true (by have := hp b hb; omega))]
  rw [B_data]
  have : Lib.toLowerA l = l := by
    unfold Lib.toLowerA
    conv => rhs; rw [← List.map_id l]
    apply List.map_congr_left
    intro b hb
    have h := hp b hb
    have hu : Lib.isUpperB b = false := by
      unfold Lib.isUpperB
      rw [Bool.and_eq_false_iff]
      exact Or.inl (decide_eq_false (by rw [UInt8.le_iff_toNat_le]; show ¬ 65 ≤ b.toNat; omega))
    simp [Lib.lowerB, hu]
  rw [this]
  rfl
theorem toUpper_plain (l : List UInt8) (hl : l.length ≤ 140737488355328) (hp : ∀ b ∈ l, b.toNat ≤ 63) : strings_ToUpper.f (B l) = some (B l) := by
  unfold strings_ToUpper.f
  rw [B_size, if_pos hl, if_pos (by unfold isAscii; rw [B_data, List.all_eq_true]; intro b hb; exact decide_eq_true (by have := hp b hb; omega))]
  rw [B_data]
  have : Lib.toUpperA l = l := by
    unfold Lib.toUpperA
    conv => rhs; rw [← List.map_id l]
    apply List.map_congr_left
    intro b hb
    have h := hp b hb
    have hu : Lib.isLowerB b = false := by
      unfold Lib.isLowerB
      rw [Bool.and_eq_false_iff]
      exact Or.inl (decide_eq_false (by rw [UInt8.le_iff_toNat_le]; show ¬ 97 ≤ b.toNat; omega))
    simp [Lib.upperB, hu]
  rw [this]
  rfl
theorem expression_no (l : List UInt8) (hp : ∀ b ∈ l, b.toNat ≤ 63) : gronx_expression.f (B l) = some (B [], false) := by
  have hne : ∀ (m : List UInt8), ¬ l = 64 :: m := by
    intro m e
    have := hp 64 (by simp [e])
    simp at this
  unfold gronx_expression.f
  simp only [B_list]
  repeat rw [if_neg (hne _)]
  rfl
end Go.Proofs.YtemgofomhjabpaaGreatDoor.Core
namespace Go.Proofs.YtemgofomhjabpaaGreatDoor.Core
open Go.RowKit Go.Proofs.YtemgofomhjabpaaGreatDoorW.PrintWords Go.Proofs.YtemgofomhjabpaaGreatDoorW.PrintLast Go.Proofs.YtemgofomhjabpaaGreatDoorW.PrintMore
attribute [local go_sem] max2_int min2_int max_two min_two max_three min_three max_four min_four   -- for this text's walks alone
set_option linter.unusedVariables false
set_option linter.unusedSimpArgs false
def spec_Decimal.f : Nat → Int → Option (ByteArray)
  | 0, _ => none
  | k + 1, a0 => if a0 < 10 then (if 0 ≤ a0 then (if a0 ≤ (wrap64 (a0 + 1)) then (if (wrap64 (a0 + 1)) ≤ 10 then (some ((⟨#[48, 49, 50, 51, 52, 53, 54, 55, 56, 57]⟩ : ByteArray).extract (a0 : Int).toNat ((wrap64 (a0 + 1)) : Int).toNat)) else (none)) else (none)) else (none)) else ((spec_Decimal.f k (wrap64 (Int.tdiv a0 10))).bind fun t153 => ((spec_Decimal.f k (Int.tmod a0 10)).bind fun t154 => (if t153.size + t154.size ≤ 9223372036854775807 then (some (t153 ++ t154)) else (none))))
set_option maxHeartbeats 8000000 in
set_option maxRecDepth 100000 in
theorem spec_Decimal.calls (k : Nat) : ∀ (a0 : Int) (r : ByteArray) (w : World) (h : spec_Decimal.f k a0 = some r),
    Calls Tryz.prog 24 #[.int .i64 a0] w fun e w' => e = .returned (.string r) ∧ Drawn0 w w' := by
  induction k using Nat.strongRecOn with
  | _ k ih =>
  intro a0 r w h
  cases k with
  | zero => exact absurd h (by simp [spec_Decimal.f])
  | succ k =>
  simp only [spec_Decimal.f] at h
  have H : (if a0 < 10 then (if 0 ≤ a0 then (if a0 ≤ (wrap64 (a0 + 1)) then (if (wrap64 (a0 + 1)) ≤ 10 then (some ((⟨#[48, 49, 50, 51, 52, 53, 54, 55, 56, 57]⟩ : ByteArray).extract (a0 : Int).toNat ((wrap64 (a0 + 1)) : Int).toNat)) else (none)) else (none)) else (none)) else ((spec_Decimal.f k (wrap64 (Int.tdiv a0 10))).bind fun t153 => ((spec_Decimal.f k (Int.tmod a0 10)).bind fun t154 => (if t153.size + t154.size ≤ 9223372036854775807 then (some (t153 ++ t154)) else (none))))) = some r := h
  clear h
  by_cases c2 : a0 < 10
  · rw [if_pos c2] at H
    have c2b0 : decide (a0 < 10) = true := decide_eq_true c2
    clear c2
    by_cases c3 : 0 ≤ a0
    · rw [if_pos c3] at H
      have c3b0 := eq_true c3
      have c3b1 : decide (0 ≤ a0) = true := decide_eq_true c3
      clear c3
      by_cases c4 : a0 ≤ (wrap64 (a0 + 1))
      · rw [if_pos c4] at H
        have c4b0 := eq_true c4
        have c4b1 : decide (a0 ≤ (wrap64 (a0 + 1))) = true := decide_eq_true c4
        by_cases c5 : (wrap64 (a0 + 1)) ≤ 10
        · rw [if_pos c5] at H
          have c5b0 := eq_true c5
          have c5b1 : decide ((wrap64 (a0 + 1)) ≤ 10) = true := decide_eq_true c5
          obtain rfl := Option.some.inj H
          go_enter Tryz.func24, Tryz.ntmps24
          go_wp2
          go_ret
          exact ⟨by first | rfl | (simp; done) | (simp [*]; done), by repeat (first | exact Drawn0.refl _ | apply Drawn0.step)⟩
        · rw [if_neg c5] at H
          exact absurd H (by simp)
      · rw [if_neg c4] at H
        exact absurd H (by simp)
    · rw [if_neg c3] at H
      exact absurd H (by simp)
  · rw [if_neg c2] at H
    have c2b0 : decide (a0 < 10) = false := decide_eq_false c2
    clear c2
    replace H := Option.bind_eq_some_iff.mp H
    obtain ⟨t153, A60, H⟩ := H
    replace H : ((spec_Decimal.f k (Int.tmod a0 10)).bind fun t154 => (if t153.size + t154.size ≤ 9223372036854775807 then (some (t153 ++ t154)) else (none))) = some r := H
    have A6 := Aside0.mk A60
    clear A60
    replace H := Option.bind_eq_some_iff.mp H
    obtain ⟨t154, A70, H⟩ := H
    replace H : (if t153.size + t154.size ≤ 9223372036854775807 then (some (t153 ++ t154)) else (none)) = some r := H
    have A7 := Aside0.mk A70
    clear A70
    by_cases c8 : t153.size + t154.size ≤ 9223372036854775807
    · rw [if_pos c8] at H
      have c8b0 := eq_true c8
      have c8b1 : decide (t153.size + t154.size ≤ 9223372036854775807) = true := decide_eq_true c8
      try have c8b2 : (9223372036854775807 < t153.size + t154.size) = False := eq_false (Nat.not_lt.2 c8)
      obtain rfl := Option.some.inj H
      go_enter Tryz.func24, Tryz.ntmps24
      go_wp2_with (first | ((with_reducible refine gate_callee (f := 24) rfl ?_); refine goesL_ (some 11) rfl rfl Tryz.func24 (by kernel_rfl) rfl #[.int .i64 (wrap64 (Int.tdiv a0 10))] rfl (by (try simp only [List.map_toArray, List.map_cons, List.map_nil]); first | done | rfl | (simp only [List.length_drop, List.length_take]; rfl)) ?_; (with_reducible refine (ih k (by omega) (wrap64 (Int.tdiv a0 10)) t153 _ A6.out).mono ?_); rintro e w' ⟨rfl, ⟨nd, rfl⟩⟩; refine ⟨_, rfl, ?_⟩) | ((with_reducible refine gate_callee (f := 24) rfl ?_); refine goesL_ (some 14) rfl rfl Tryz.func24 (by kernel_rfl) rfl #[.int .i64 (Int.tmod a0 10)] rfl (by (try simp only [List.map_toArray, List.map_cons, List.map_nil]); first | done | rfl | (simp only [List.length_drop, List.length_take]; rfl)) ?_; (with_reducible refine (ih k (by omega) (Int.tmod a0 10) t154 _ A7.out).mono ?_); rintro e w' ⟨rfl, ⟨nd, rfl⟩⟩; refine ⟨_, rfl, ?_⟩))
      go_ret
      exact ⟨by first | rfl | (simp; done) | (simp [*]; done), by repeat (first | exact Drawn0.refl _ | apply Drawn0.step)⟩
    · rw [if_neg c8] at H
      exact absurd H (by simp)
end Go.Proofs.YtemgofomhjabpaaGreatDoor.Core
namespace Go.Proofs.YtemgofomhjabpaaGreatDoor.Core
open Go.RowKit Go.Proofs.YtemgofomhjabpaaGreatDoorW.PrintWords Go.Proofs.YtemgofomhjabpaaGreatDoorW.PrintLast Go.Proofs.YtemgofomhjabpaaGreatDoorW.PrintMore
attribute [local go_sem] max2_int min2_int max_two min_two max_three min_three max_four min_four   -- for this text's walks alone
set_option linter.unusedVariables false
set_option linter.unusedSimpArgs false
def spec_ItemText.j0 : Nat → ByteArray → Bool → Bool → Int → Int → Int → Option (ByteArray)
  | 0, _, _, _, _, _, _ => none
  | k + 1, x3, x19, x156000, x156001, x156002, x156003 => if x19 = true then ((spec_Decimal.f k x156002).bind fun t158 => (if 1 + t158.size ≤ 9223372036854775807 then (if x3.size + ((⟨#[45]⟩ : ByteArray) ++ t158).size ≤ 9223372036854775807 then (if x156003 > 1 then ((spec_Decimal.f k x156003).bind fun t159 => (if 1 + t159.size ≤ 9223372036854775807 then (if (x3 ++ ((⟨#[45]⟩ : ByteArray) ++ t158)).size + ((⟨#[47]⟩ : ByteArray) ++ t159).size ≤ 9223372036854775807 then (some ((x3 ++ ((⟨#[45]⟩ : ByteArray) ++ t158)) ++ ((⟨#[47]⟩ : ByteArray) ++ t159))) else (none)) else (none))) else (some (x3 ++ ((⟨#[45]⟩ : ByteArray) ++ t158)))) else (none)) else (none))) else (if x156003 > 1 then ((spec_Decimal.f k x156003).bind fun t160 => (if 1 + t160.size ≤ 9223372036854775807 then (if x3.size + ((⟨#[47]⟩ : ByteArray) ++ t160).size ≤ 9223372036854775807 then (some (x3 ++ ((⟨#[47]⟩ : ByteArray) ++ t160))) else (none)) else (none))) else (some x3))
def spec_ItemText.f (k : Nat) (a0_0 : Bool) (a0_1 : Int) (a0_2 : Int) (a0_3 : Int) : Option (ByteArray) := if a0_0 = true then (if a0_3 > 1 then ((spec_Decimal.f k a0_3).bind fun t156 => (if 1 + t156.size ≤ 9223372036854775807 then (if 1 + ((⟨#[47]⟩ : ByteArray) ++ t156).size ≤ 9223372036854775807 then (some ((⟨#[42]⟩ : ByteArray) ++ ((⟨#[47]⟩ : ByteArray) ++ t156))) else (none)) else (none))) else (some (⟨#[42]⟩ : ByteArray))) else ((spec_Decimal.f k a0_1).bind fun t157 => (if a0_2 > a0_1 then (spec_ItemText.j0 k t157 true a0_0 a0_1 a0_2 a0_3) else (spec_ItemText.j0 k t157 (decide (a0_3 > 1)) a0_0 a0_1 a0_2 a0_3)))
set_option maxHeartbeats 8000000 in
set_option maxRecDepth 100000 in
theorem spec_ItemText.calls (k : Nat) (a0_0 : Bool) (a0_1 : Int) (a0_2 : Int) (a0_3 : Int) (r : ByteArray) (w : World) (h : spec_ItemText.f k a0_0 a0_1 a0_2 a0_3 = some r) :
    Calls Tryz.prog 34 #[.agg #[.bool a0_0, .int .i64 a0_1, .int .i64 a0_2, .int .i64 a0_3]] w fun e w' => e = .returned (.string r) ∧ Below w.heap.size w w' := by
  have hu38 := Tryz.underlying38
  have HB := Aside0.mk (Below.refl w.heap.size w)
  have H : (if a0_0 = true then (if a0_3 > 1 then ((spec_Decimal.f k a0_3).bind fun t156 => (if 1 + t156.size ≤ 9223372036854775807 then (if 1 + ((⟨#[47]⟩ : ByteArray) ++ t156).size ≤ 9223372036854775807 then (some ((⟨#[42]⟩ : ByteArray) ++ ((⟨#[47]⟩ : ByteArray) ++ t156))) else (none)) else (none))) else (some (⟨#[42]⟩ : ByteArray))) else ((spec_Decimal.f k a0_1).bind fun t157 => (if a0_2 > a0_1 then (spec_ItemText.j0 k t157 true a0_0 a0_1 a0_2 a0_3) else (spec_ItemText.j0 k t157 (decide (a0_3 > 1)) a0_0 a0_1 a0_2 a0_3)))) = some r := h
  clear h
  by_cases c2 : a0_0 = true
  · subst c2
    have H1 : (if a0_3 > 1 then ((spec_Decimal.f k a0_3).bind fun t156 => (if 1 + t156.size ≤ 9223372036854775807 then (if 1 + ((⟨#[47]⟩ : ByteArray) ++ t156).size ≤ 9223372036854775807 then (some ((⟨#[42]⟩ : ByteArray) ++ ((⟨#[47]⟩ : ByteArray) ++ t156))) else (none)) else (none))) else (some (⟨#[42]⟩ : ByteArray))) = some r := by rw [if_pos rfl] at H; exact H
    clear H
    have H := H1
    clear H1
    by_cases c3 : a0_3 > 1
    · rw [if_pos c3] at H
      have c3b0 : decide (1 < a0_3) = true := decide_eq_true c3
      clear c3
      replace H := Option.bind_eq_some_iff.mp H
      obtain ⟨t156, A40, H⟩ := H
      replace H : (if 1 + t156.size ≤ 9223372036854775807 then (if 1 + ((⟨#[47]⟩ : ByteArray) ++ t156).size ≤ 9223372036854775807 then (some ((⟨#[42]⟩ : ByteArray) ++ ((⟨#[47]⟩ : ByteArray) ++ t156))) else (none)) else (none)) = some r := H
      have A4 := Aside0.mk A40
      clear A40
      by_cases c5 : 1 + t156.size ≤ 9223372036854775807
      · rw [if_pos c5] at H
        have c5b0 := eq_true c5
        have c5b1 : decide (1 + t156.size ≤ 9223372036854775807) = true := decide_eq_true c5
        try have c5b2 : (9223372036854775807 < 1 + t156.size) = False := eq_false (Nat.not_lt.2 c5)
        by_cases c6 : 1 + ((⟨#[47]⟩ : ByteArray) ++ t156).size ≤ 9223372036854775807
        · rw [if_pos c6] at H
          have c6b0 := eq_true c6
          have c6b1 : decide (1 + ((⟨#[47]⟩ : ByteArray) ++ t156).size ≤ 9223372036854775807) = true := decide_eq_true c6
          try have c6b2 : (9223372036854775807 < 1 + ((⟨#[47]⟩ : ByteArray) ++ t156).size) = False := eq_false (Nat.not_lt.2 c6)
          (try have c6b3 : (9223372036854775807 < 1 + (1 + t156.size)) = False := eq_false (Nat.not_lt.2 (by have h_ := c6; (try simp only [ByteArray.size_append] at h_); exact h_)))
          obtain rfl := Option.some.inj H
          go_enter Tryz.func34, Tryz.ntmps34
          go_wp2_with (first | ((with_reducible refine gate_dst (N := 1) rfl ?_); refine box_event ?hg (N := 1) ?hd (cs := #[.bool true, .int .i64 a0_1, .int .i64 a0_2, .int .i64 a0_3]) (t := 38) ?hr ?_; (case hd => rfl); (case hg => rfl); (case hr => first | (go_simp; done) | (go_simp; rfl)); intro gb155 hg w7 hbox hb; have n0_ := Aside0.mk (below_step (by repeat (first | (with_reducible first | exact HB.out | apply below_alloc | apply pw_below_drewN | apply below_drew1) | exact HB.out)) hb); have n1_ := Aside0.mk (hbox); have n2_ := Aside0.mk ((by rw [hg]; exact (below_size (by repeat (first | (with_reducible first | exact HB.out | apply below_alloc | apply pw_below_drewN | apply below_drew1) | exact HB.out))) : w.heap.size ≤ gb155)); have n3_ := Aside0.mk ((by rw [hg]; exact (below_size (by repeat (first | (with_reducible first | exact HB.out | apply below_alloc | apply pw_below_drewN | apply below_drew1) | exact HB.out))) : w.heap.size ≤ gb155)); clear HB; have HB := n0_; have BK155 := n1_; have GW155 := n2_; have GE155 := n3_; clear n0_ n1_ n2_ n3_; clear hb hbox hg; have hcz8_0 : w7.cell? ⟨gb155, 0, none⟩ = some (.bool true) := (blk_cell BK155.out 0).trans rfl; have hcz8_1 : w7.cell? ⟨gb155, 1, none⟩ = some (.int .i64 a0_1) := (blk_cell BK155.out 1).trans rfl; have hcz8_2 : w7.cell? ⟨gb155, 2, none⟩ = some (.int .i64 a0_2) := (blk_cell BK155.out 2).trans rfl; have hcz8_3 : w7.cell? ⟨gb155, 3, none⟩ = some (.int .i64 a0_3) := (blk_cell BK155.out 3).trans rfl; have hfz8_0 := blk_frozen BK155.out 0; have hfz8_1 := blk_frozen BK155.out 1; have hfz8_2 := blk_frozen BK155.out 2; have hfz8_3 := blk_frozen BK155.out 3) | ((with_reducible refine gate_callee (f := 24) rfl ?_); refine goesL_ (some 32) rfl rfl Tryz.func24 (by kernel_rfl) rfl #[.int .i64 a0_3] rfl (by (try simp only [List.map_toArray, List.map_cons, List.map_nil]); first | done | rfl | (simp only [List.length_drop, List.length_take]; rfl)) ?_; (with_reducible refine (spec_Decimal.calls k a0_3 t156 _ A4.out).mono ?_); rintro e w' ⟨rfl, ⟨nd, rfl⟩⟩; refine ⟨_, rfl, ?_⟩))
          go_ret
          exact ⟨by first | rfl | (simp [errW_none, errW_some] <;> rfl) | (simp [*, errW_none, errW_some] <;> rfl), by repeat (first | (with_reducible first | exact HB.out | apply below_alloc | apply pw_below_drewN | apply below_drew1 | refine below_set ?_ GE155.out) | exact HB.out)⟩
        · rw [if_neg c6] at H
          exact absurd H (by simp)
      · rw [if_neg c5] at H
        exact absurd H (by simp)
    · rw [if_neg c3] at H
      have c3b0 : decide (1 < a0_3) = false := decide_eq_false c3
      clear c3
      obtain rfl := Option.some.inj H
      go_enter Tryz.func34, Tryz.ntmps34
      go_wp2_with (first | ((with_reducible refine gate_dst (N := 1) rfl ?_); refine box_event ?hg (N := 1) ?hd (cs := #[.bool true, .int .i64 a0_1, .int .i64 a0_2, .int .i64 a0_3]) (t := 38) ?hr ?_; (case hd => rfl); (case hg => rfl); (case hr => first | (go_simp; done) | (go_simp; rfl)); intro gb155 hg w9 hbox hb; have n0_ := Aside0.mk (below_step (by repeat (first | (with_reducible first | exact HB.out | apply below_alloc | apply pw_below_drewN | apply below_drew1) | exact HB.out)) hb); have n1_ := Aside0.mk (hbox); have n2_ := Aside0.mk ((by rw [hg]; exact (below_size (by repeat (first | (with_reducible first | exact HB.out | apply below_alloc | apply pw_below_drewN | apply below_drew1) | exact HB.out))) : w.heap.size ≤ gb155)); have n3_ := Aside0.mk ((by rw [hg]; exact (below_size (by repeat (first | (with_reducible first | exact HB.out | apply below_alloc | apply pw_below_drewN | apply below_drew1) | exact HB.out))) : w.heap.size ≤ gb155)); clear HB; have HB := n0_; have BK155 := n1_; have GW155 := n2_; have GE155 := n3_; clear n0_ n1_ n2_ n3_; clear hb hbox hg; have hcz10_0 : w9.cell? ⟨gb155, 0, none⟩ = some (.bool true) := (blk_cell BK155.out 0).trans rfl; have hcz10_1 : w9.cell? ⟨gb155, 1, none⟩ = some (.int .i64 a0_1) := (blk_cell BK155.out 1).trans rfl; have hcz10_2 : w9.cell? ⟨gb155, 2, none⟩ = some (.int .i64 a0_2) := (blk_cell BK155.out 2).trans rfl; have hcz10_3 : w9.cell? ⟨gb155, 3, none⟩ = some (.int .i64 a0_3) := (blk_cell BK155.out 3).trans rfl; have hfz10_0 := blk_frozen BK155.out 0; have hfz10_1 := blk_frozen BK155.out 1; have hfz10_2 := blk_frozen BK155.out 2; have hfz10_3 := blk_frozen BK155.out 3))
      go_ret
      exact ⟨by first | rfl | (simp [errW_none, errW_some] <;> rfl) | (simp [*, errW_none, errW_some] <;> rfl), by repeat (first | (with_reducible first | exact HB.out | apply below_alloc | apply pw_below_drewN | apply below_drew1 | refine below_set ?_ GE155.out) | exact HB.out)⟩
  · replace c2 := Bool.eq_false_iff.mpr c2
    subst c2
    have H1 : ((spec_Decimal.f k a0_1).bind fun t157 => (if a0_2 > a0_1 then (spec_ItemText.j0 k t157 true false a0_1 a0_2 a0_3) else (spec_ItemText.j0 k t157 (decide (a0_3 > 1)) false a0_1 a0_2 a0_3))) = some r := by rw [if_neg (show ¬ (false = true) by decide)] at H; exact H
    clear H
    have H := H1
    clear H1
    replace H := Option.bind_eq_some_iff.mp H
    obtain ⟨t157, A110, H⟩ := H
    replace H : (if a0_2 > a0_1 then (spec_ItemText.j0 k t157 true false a0_1 a0_2 a0_3) else (spec_ItemText.j0 k t157 (decide (a0_3 > 1)) false a0_1 a0_2 a0_3)) = some r := H
    have A11 := Aside0.mk A110
    clear A110
    have HC12 := Aside0.mk H
    clear H
    go_enter Tryz.func34, Tryz.ntmps34
    go_upto_region 4 with (first | ((with_reducible refine gate_dst (N := 1) rfl ?_); refine box_event ?hg (N := 1) ?hd (cs := #[.bool false, .int .i64 a0_1, .int .i64 a0_2, .int .i64 a0_3]) (t := 38) ?hr ?_; (case hd => rfl); (case hg => rfl); (case hr => first | (go_simp; done) | (go_simp; rfl)); intro gb155 hg w13 hbox hb; have n0_ := Aside0.mk (below_step (by repeat (first | (with_reducible first | exact HB.out | apply below_alloc | apply pw_below_drewN | apply below_drew1) | exact HB.out)) hb); have n1_ := Aside0.mk (hbox); have n2_ := Aside0.mk ((by rw [hg]; exact (below_size (by repeat (first | (with_reducible first | exact HB.out | apply below_alloc | apply pw_below_drewN | apply below_drew1) | exact HB.out))) : w.heap.size ≤ gb155)); have n3_ := Aside0.mk ((by rw [hg]; exact (below_size (by repeat (first | (with_reducible first | exact HB.out | apply below_alloc | apply pw_below_drewN | apply below_drew1) | exact HB.out))) : w.heap.size ≤ gb155)); clear HB; have HB := n0_; have BK155 := n1_; have GW155 := n2_; have GE155 := n3_; clear n0_ n1_ n2_ n3_; clear hb hbox hg; have hcz14_0 : w13.cell? ⟨gb155, 0, none⟩ = some (.bool false) := (blk_cell BK155.out 0).trans rfl; have hcz14_1 : w13.cell? ⟨gb155, 1, none⟩ = some (.int .i64 a0_1) := (blk_cell BK155.out 1).trans rfl; have hcz14_2 : w13.cell? ⟨gb155, 2, none⟩ = some (.int .i64 a0_2) := (blk_cell BK155.out 2).trans rfl; have hcz14_3 : w13.cell? ⟨gb155, 3, none⟩ = some (.int .i64 a0_3) := (blk_cell BK155.out 3).trans rfl; have hfz14_0 := blk_frozen BK155.out 0; have hfz14_1 := blk_frozen BK155.out 1; have hfz14_2 := blk_frozen BK155.out 2; have hfz14_3 := blk_frozen BK155.out 3) | ((with_reducible refine gate_callee (f := 24) rfl ?_); refine goesL_ (some 9) rfl rfl Tryz.func24 (by kernel_rfl) rfl #[.int .i64 a0_1] rfl (by (try simp only [List.map_toArray, List.map_cons, List.map_nil]); first | done | rfl | (simp only [List.length_drop, List.length_take]; rfl)) ?_; (with_reducible refine (spec_Decimal.calls k a0_1 t157 _ A11.out).mono ?_); rintro e w' ⟨rfl, ⟨nd, rfl⟩⟩; refine ⟨_, rfl, ?_⟩))
    (try simp only [Act.put, List.setIfInBounds_toArray, List.set_cons_zero, List.set_cons_succ])
    go_cut [19] (fun v19 wc => ∃ (kq : Nat) (x19_11 : Bool), v19 = .bool x19_11 ∧ Aside0 (spec_ItemText.j0 kq t157 x19_11 false a0_1 a0_2 a0_3 = some r) ∧ Aside0 (kq ≤ k) ∧ Aside0 (wc.heap[gb155]? = some (.cells #[.bool false, .int .i64 a0_1, .int .i64 a0_2, .int .i64 a0_3] 38 (0, 0))) ∧ Aside0 (Below w.heap.size w wc))
    case first =>
      have H := HC12.out
      clear HC12
      by_cases c15 : a0_2 > a0_1
      · rw [if_pos c15] at H
        have c15b0 : decide (a0_1 < a0_2) = true := decide_eq_true c15
        clear c15
        (first | rw [c15b0] | (simp only [i64_w, i32_w]; rw [c15b0]) | skip)
        have H' := Aside0.mk H
        clear H
        have hcz16_0 : w13.cell? ⟨gb155, 0, none⟩ = some (.bool false) := (blk_cell BK155.out 0).trans rfl
        have hcz16_1 : w13.cell? ⟨gb155, 1, none⟩ = some (.int .i64 a0_1) := (blk_cell BK155.out 1).trans rfl
        have hcz16_2 : w13.cell? ⟨gb155, 2, none⟩ = some (.int .i64 a0_2) := (blk_cell BK155.out 2).trans rfl
        have hcz16_3 : w13.cell? ⟨gb155, 3, none⟩ = some (.int .i64 a0_3) := (blk_cell BK155.out 3).trans rfl
        have hfz16_0 := blk_frozen BK155.out 0
        have hfz16_1 := blk_frozen BK155.out 1
        have hfz16_2 := blk_frozen BK155.out 2
        have hfz16_3 := blk_frozen BK155.out 3
        go_wp2
        go_meet
        case rel => exact ⟨_, (true), (by first | rfl | (simp; done) | (simp [*]; done)), H', ⟨by first | omega | exact Nat.le_refl _⟩, ⟨by (with_reducible repeat (first | refine blk_drewN ?_ _ | refine blk_drew ?_ | refine blk_alloc ?_ _)); exact BK155.out⟩, ⟨by repeat (first | (with_reducible first | exact HB.out | apply below_alloc | apply pw_below_drewN | apply below_drew1 | refine below_set ?_ GE155.out) | exact HB.out)⟩⟩
      · rw [if_neg c15] at H
        have c15b0 : decide (a0_1 < a0_2) = false := decide_eq_false c15
        clear c15
        (first | rw [c15b0] | (simp only [i64_w, i32_w]; rw [c15b0]) | skip)
        have H' := Aside0.mk H
        clear H
        have hcz17_0 : w13.cell? ⟨gb155, 0, none⟩ = some (.bool false) := (blk_cell BK155.out 0).trans rfl
        have hcz17_1 : w13.cell? ⟨gb155, 1, none⟩ = some (.int .i64 a0_1) := (blk_cell BK155.out 1).trans rfl
        have hcz17_2 : w13.cell? ⟨gb155, 2, none⟩ = some (.int .i64 a0_2) := (blk_cell BK155.out 2).trans rfl
        have hcz17_3 : w13.cell? ⟨gb155, 3, none⟩ = some (.int .i64 a0_3) := (blk_cell BK155.out 3).trans rfl
        have hfz17_0 := blk_frozen BK155.out 0
        have hfz17_1 := blk_frozen BK155.out 1
        have hfz17_2 := blk_frozen BK155.out 2
        have hfz17_3 := blk_frozen BK155.out 3
        go_wp2
        go_meet
        case rel => exact ⟨_, (decide (a0_3 > 1)), (by first | rfl | (simp; done) | (simp [*]; done)), H', ⟨by first | omega | exact Nat.le_refl _⟩, ⟨by (with_reducible repeat (first | refine blk_drewN ?_ _ | refine blk_drew ?_ | refine blk_alloc ?_ _)); exact BK155.out⟩, ⟨by repeat (first | (with_reducible first | exact HB.out | apply below_alloc | apply pw_below_drewN | apply below_drew1 | refine below_set ?_ GE155.out) | exact HB.out)⟩⟩
    case rest =>
      clear HC12
      try clear c1
      try clear c2
      try clear p2
      try clear c3
      try clear c3b0
      try clear c5
      try clear c5b0
      try clear c5b1
      try clear c5b2
      try clear c6
      try clear c6b0
      try clear c6b1
      try clear c6b2
      try clear c15
      try clear c15b0
      try clear hcz10_0
      try clear hcz10_1
      try clear hcz10_2
      try clear hcz10_3
      try clear hcz14_0
      try clear hcz14_1
      try clear hcz14_2
      try clear hcz14_3
      try clear hcz16_0
      try clear hcz16_1
      try clear hcz16_2
      try clear hcz16_3
      try clear hcz17_0
      try clear hcz17_1
      try clear hcz17_2
      try clear hcz17_3
      try clear hcz8_0
      try clear hcz8_1
      try clear hcz8_2
      try clear hcz8_3
      try clear hfz10_0
      try clear hfz10_1
      try clear hfz10_2
      try clear hfz10_3
      try clear hfz14_0
      try clear hfz14_1
      try clear hfz14_2
      try clear hfz14_3
      try clear hfz16_0
      try clear hfz16_1
      try clear hfz16_2
      try clear hfz16_3
      try clear hfz17_0
      try clear hfz17_1
      try clear hfz17_2
      try clear hfz17_3
      try clear hfz8_0
      try clear hfz8_1
      try clear hfz8_2
      try clear hfz8_3
      obtain ⟨kq, x19_11, rfl, HA, HJ11, BK155, HB⟩ := hcut
      cases kq with
      | zero => exact absurd HA.out (by simp [spec_ItemText.j0])
      | succ kj11 =>
        have H := HA.out
        clear HA
        simp only [spec_ItemText.j0] at H
        by_cases c18 : x19_11 = true
        · subst c18
          have H1 : ((spec_Decimal.f kj11 a0_2).bind fun t158 => (if 1 + t158.size ≤ 9223372036854775807 then (if t157.size + ((⟨#[45]⟩ : ByteArray) ++ t158).size ≤ 9223372036854775807 then (if a0_3 > 1 then ((spec_Decimal.f kj11 a0_3).bind fun t159 => (if 1 + t159.size ≤ 9223372036854775807 then (if (t157 ++ ((⟨#[45]⟩ : ByteArray) ++ t158)).size + ((⟨#[47]⟩ : ByteArray) ++ t159).size ≤ 9223372036854775807 then (some ((t157 ++ ((⟨#[45]⟩ : ByteArray) ++ t158)) ++ ((⟨#[47]⟩ : ByteArray) ++ t159))) else (none)) else (none))) else (some (t157 ++ ((⟨#[45]⟩ : ByteArray) ++ t158)))) else (none)) else (none))) = some r := by rw [if_pos rfl] at H; exact H
          clear H
          have H := H1
          clear H1
          replace H := Option.bind_eq_some_iff.mp H
          obtain ⟨t158, A190, H⟩ := H
          replace H : (if 1 + t158.size ≤ 9223372036854775807 then (if t157.size + ((⟨#[45]⟩ : ByteArray) ++ t158).size ≤ 9223372036854775807 then (if a0_3 > 1 then ((spec_Decimal.f kj11 a0_3).bind fun t159 => (if 1 + t159.size ≤ 9223372036854775807 then (if (t157 ++ ((⟨#[45]⟩ : ByteArray) ++ t158)).size + ((⟨#[47]⟩ : ByteArray) ++ t159).size ≤ 9223372036854775807 then (some ((t157 ++ ((⟨#[45]⟩ : ByteArray) ++ t158)) ++ ((⟨#[47]⟩ : ByteArray) ++ t159))) else (none)) else (none))) else (some (t157 ++ ((⟨#[45]⟩ : ByteArray) ++ t158)))) else (none)) else (none)) = some r := H
          have A19 := Aside0.mk A190
          clear A190
          by_cases c20 : 1 + t158.size ≤ 9223372036854775807
          · rw [if_pos c20] at H
            have c20b0 := eq_true c20
            have c20b1 : decide (1 + t158.size ≤ 9223372036854775807) = true := decide_eq_true c20
            try have c20b2 : (9223372036854775807 < 1 + t158.size) = False := eq_false (Nat.not_lt.2 c20)
            by_cases c21 : t157.size + ((⟨#[45]⟩ : ByteArray) ++ t158).size ≤ 9223372036854775807
            · rw [if_pos c21] at H
              have c21b0 := eq_true c21
              have c21b1 : decide (t157.size + ((⟨#[45]⟩ : ByteArray) ++ t158).size ≤ 9223372036854775807) = true := decide_eq_true c21
              try have c21b2 : (9223372036854775807 < t157.size + ((⟨#[45]⟩ : ByteArray) ++ t158).size) = False := eq_false (Nat.not_lt.2 c21)
              (try have c21b3 : (9223372036854775807 < t157.size + (1 + t158.size)) = False := eq_false (Nat.not_lt.2 (by have h_ := c21; (try simp only [ByteArray.size_append] at h_); exact h_)))
              by_cases c22 : a0_3 > 1
              · rw [if_pos c22] at H
                have c22b0 : decide (1 < a0_3) = true := decide_eq_true c22
                clear c22
                replace H := Option.bind_eq_some_iff.mp H
                obtain ⟨t159, A230, H⟩ := H
                replace H : (if 1 + t159.size ≤ 9223372036854775807 then (if (t157 ++ ((⟨#[45]⟩ : ByteArray) ++ t158)).size + ((⟨#[47]⟩ : ByteArray) ++ t159).size ≤ 9223372036854775807 then (some ((t157 ++ ((⟨#[45]⟩ : ByteArray) ++ t158)) ++ ((⟨#[47]⟩ : ByteArray) ++ t159))) else (none)) else (none)) = some r := H
                have A23 := Aside0.mk A230
                clear A230
                by_cases c24 : 1 + t159.size ≤ 9223372036854775807
                · rw [if_pos c24] at H
                  have c24b0 := eq_true c24
                  have c24b1 : decide (1 + t159.size ≤ 9223372036854775807) = true := decide_eq_true c24
                  try have c24b2 : (9223372036854775807 < 1 + t159.size) = False := eq_false (Nat.not_lt.2 c24)
                  by_cases c25 : (t157 ++ ((⟨#[45]⟩ : ByteArray) ++ t158)).size + ((⟨#[47]⟩ : ByteArray) ++ t159).size ≤ 9223372036854775807
                  · rw [if_pos c25] at H
                    have c25b0 := eq_true c25
                    have c25b1 : decide ((t157 ++ ((⟨#[45]⟩ : ByteArray) ++ t158)).size + ((⟨#[47]⟩ : ByteArray) ++ t159).size ≤ 9223372036854775807) = true := decide_eq_true c25
                    try have c25b2 : (9223372036854775807 < (t157 ++ ((⟨#[45]⟩ : ByteArray) ++ t158)).size + ((⟨#[47]⟩ : ByteArray) ++ t159).size) = False := eq_false (Nat.not_lt.2 c25)
                    (try have c25b3 : (9223372036854775807 < (t157.size + (1 + t158.size)) + (1 + t159.size)) = False := eq_false (Nat.not_lt.2 (by have h_ := c25; (try simp only [ByteArray.size_append] at h_); exact h_)))
                    obtain rfl := Option.some.inj H
                    have hcz26_0 : wc.cell? ⟨gb155, 0, none⟩ = some (.bool false) := (blk_cell BK155.out 0).trans rfl
                    have hcz26_1 : wc.cell? ⟨gb155, 1, none⟩ = some (.int .i64 a0_1) := (blk_cell BK155.out 1).trans rfl
                    have hcz26_2 : wc.cell? ⟨gb155, 2, none⟩ = some (.int .i64 a0_2) := (blk_cell BK155.out 2).trans rfl
                    have hcz26_3 : wc.cell? ⟨gb155, 3, none⟩ = some (.int .i64 a0_3) := (blk_cell BK155.out 3).trans rfl
                    have hfz26_0 := blk_frozen BK155.out 0
                    have hfz26_1 := blk_frozen BK155.out 1
                    have hfz26_2 := blk_frozen BK155.out 2
                    have hfz26_3 := blk_frozen BK155.out 3
                    go_wp2_with (first | ((with_reducible refine gate_callee (f := 24) rfl ?_); refine goesL_ (some 23) rfl rfl Tryz.func24 (by kernel_rfl) rfl #[.int .i64 a0_2] rfl (by (try simp only [List.map_toArray, List.map_cons, List.map_nil]); first | done | rfl | (simp only [List.length_drop, List.length_take]; rfl)) ?_; (with_reducible refine (spec_Decimal.calls kj11 a0_2 t158 _ A19.out).mono ?_); rintro e w' ⟨rfl, ⟨nd, rfl⟩⟩; refine ⟨_, rfl, ?_⟩) | ((with_reducible refine gate_callee (f := 24) rfl ?_); refine goesL_ (some 32) rfl rfl Tryz.func24 (by kernel_rfl) rfl #[.int .i64 a0_3] rfl (by (try simp only [List.map_toArray, List.map_cons, List.map_nil]); first | done | rfl | (simp only [List.length_drop, List.length_take]; rfl)) ?_; (with_reducible refine (spec_Decimal.calls kj11 a0_3 t159 _ A23.out).mono ?_); rintro e w' ⟨rfl, ⟨nd, rfl⟩⟩; refine ⟨_, rfl, ?_⟩))
                    go_ret
                    exact ⟨by first | rfl | (simp [errW_none, errW_some] <;> rfl) | (simp [*, errW_none, errW_some] <;> rfl), by repeat (first | (with_reducible first | exact HB.out | apply below_alloc | apply pw_below_drewN | apply below_drew1 | refine below_set ?_ GE155.out) | exact HB.out)⟩
                  · rw [if_neg c25] at H
                    exact absurd H (by simp)
                · rw [if_neg c24] at H
                  exact absurd H (by simp)
              · rw [if_neg c22] at H
                have c22b0 : decide (1 < a0_3) = false := decide_eq_false c22
                clear c22
                obtain rfl := Option.some.inj H
                have hcz27_0 : wc.cell? ⟨gb155, 0, none⟩ = some (.bool false) := (blk_cell BK155.out 0).trans rfl
                have hcz27_1 : wc.cell? ⟨gb155, 1, none⟩ = some (.int .i64 a0_1) := (blk_cell BK155.out 1).trans rfl
                have hcz27_2 : wc.cell? ⟨gb155, 2, none⟩ = some (.int .i64 a0_2) := (blk_cell BK155.out 2).trans rfl
                have hcz27_3 : wc.cell? ⟨gb155, 3, none⟩ = some (.int .i64 a0_3) := (blk_cell BK155.out 3).trans rfl
                have hfz27_0 := blk_frozen BK155.out 0
                have hfz27_1 := blk_frozen BK155.out 1
                have hfz27_2 := blk_frozen BK155.out 2
                have hfz27_3 := blk_frozen BK155.out 3
                go_wp2_with (first | ((with_reducible refine gate_callee (f := 24) rfl ?_); refine goesL_ (some 23) rfl rfl Tryz.func24 (by kernel_rfl) rfl #[.int .i64 a0_2] rfl (by (try simp only [List.map_toArray, List.map_cons, List.map_nil]); first | done | rfl | (simp only [List.length_drop, List.length_take]; rfl)) ?_; (with_reducible refine (spec_Decimal.calls kj11 a0_2 t158 _ A19.out).mono ?_); rintro e w' ⟨rfl, ⟨nd, rfl⟩⟩; refine ⟨_, rfl, ?_⟩))
                go_ret
                exact ⟨by first | rfl | (simp [errW_none, errW_some] <;> rfl) | (simp [*, errW_none, errW_some] <;> rfl), by repeat (first | (with_reducible first | exact HB.out | apply below_alloc | apply pw_below_drewN | apply below_drew1 | refine below_set ?_ GE155.out) | exact HB.out)⟩
            · rw [if_neg c21] at H
              exact absurd H (by simp)
          · rw [if_neg c20] at H
            exact absurd H (by simp)
        · replace c18 := Bool.eq_false_iff.mpr c18
          subst c18
          have H1 : (if a0_3 > 1 then ((spec_Decimal.f kj11 a0_3).bind fun t160 => (if 1 + t160.size ≤ 9223372036854775807 then (if t157.size + ((⟨#[47]⟩ : ByteArray) ++ t160).size ≤ 9223372036854775807 then (some (t157 ++ ((⟨#[47]⟩ : ByteArray) ++ t160))) else (none)) else (none))) else (some t157)) = some r := by rw [if_neg (show ¬ (false = true) by decide)] at H; exact H
          clear H
          have H := H1
          clear H1
          by_cases c28 : a0_3 > 1
          · rw [if_pos c28] at H
            have c28b0 : decide (1 < a0_3) = true := decide_eq_true c28
            clear c28
            replace H := Option.bind_eq_some_iff.mp H
            obtain ⟨t160, A290, H⟩ := H
            replace H : (if 1 + t160.size ≤ 9223372036854775807 then (if t157.size + ((⟨#[47]⟩ : ByteArray) ++ t160).size ≤ 9223372036854775807 then (some (t157 ++ ((⟨#[47]⟩ : ByteArray) ++ t160))) else (none)) else (none)) = some r := H
            have A29 := Aside0.mk A290
            clear A290
            by_cases c30 : 1 + t160.size ≤ 9223372036854775807
            · rw [if_pos c30] at H
              have c30b0 := eq_true c30
              have c30b1 : decide (1 + t160.size ≤ 9223372036854775807) = true := decide_eq_true c30
              try have c30b2 : (9223372036854775807 < 1 + t160.size) = False := eq_false (Nat.not_lt.2 c30)
              by_cases c31 : t157.size + ((⟨#[47]⟩ : ByteArray) ++ t160).size ≤ 9223372036854775807
              · rw [if_pos c31] at H
                have c31b0 := eq_true c31
                have c31b1 : decide (t157.size + ((⟨#[47]⟩ : ByteArray) ++ t160).size ≤ 9223372036854775807) = true := decide_eq_true c31
                try have c31b2 : (9223372036854775807 < t157.size + ((⟨#[47]⟩ : ByteArray) ++ t160).size) = False := eq_false (Nat.not_lt.2 c31)
                (try have c31b3 : (9223372036854775807 < t157.size + (1 + t160.size)) = False := eq_false (Nat.not_lt.2 (by have h_ := c31; (try simp only [ByteArray.size_append] at h_); exact h_)))
                obtain rfl := Option.some.inj H
                have hcz32_0 : wc.cell? ⟨gb155, 0, none⟩ = some (.bool false) := (blk_cell BK155.out 0).trans rfl
                have hcz32_1 : wc.cell? ⟨gb155, 1, none⟩ = some (.int .i64 a0_1) := (blk_cell BK155.out 1).trans rfl
                have hcz32_2 : wc.cell? ⟨gb155, 2, none⟩ = some (.int .i64 a0_2) := (blk_cell BK155.out 2).trans rfl
                have hcz32_3 : wc.cell? ⟨gb155, 3, none⟩ = some (.int .i64 a0_3) := (blk_cell BK155.out 3).trans rfl
                have hfz32_0 := blk_frozen BK155.out 0
                have hfz32_1 := blk_frozen BK155.out 1
                have hfz32_2 := blk_frozen BK155.out 2
                have hfz32_3 := blk_frozen BK155.out 3
                go_wp2_with (first | ((with_reducible refine gate_callee (f := 24) rfl ?_); refine goesL_ (some 32) rfl rfl Tryz.func24 (by kernel_rfl) rfl #[.int .i64 a0_3] rfl (by (try simp only [List.map_toArray, List.map_cons, List.map_nil]); first | done | rfl | (simp only [List.length_drop, List.length_take]; rfl)) ?_; (with_reducible refine (spec_Decimal.calls kj11 a0_3 t160 _ A29.out).mono ?_); rintro e w' ⟨rfl, ⟨nd, rfl⟩⟩; refine ⟨_, rfl, ?_⟩))
                go_ret
                exact ⟨by first | rfl | (simp [errW_none, errW_some] <;> rfl) | (simp [*, errW_none, errW_some] <;> rfl), by repeat (first | (with_reducible first | exact HB.out | apply below_alloc | apply pw_below_drewN | apply below_drew1 | refine below_set ?_ GE155.out) | exact HB.out)⟩
              · rw [if_neg c31] at H
                exact absurd H (by simp)
            · rw [if_neg c30] at H
              exact absurd H (by simp)
          · rw [if_neg c28] at H
            have c28b0 : decide (1 < a0_3) = false := decide_eq_false c28
            clear c28
            obtain rfl := Option.some.inj H
            have hcz33_0 : wc.cell? ⟨gb155, 0, none⟩ = some (.bool false) := (blk_cell BK155.out 0).trans rfl
            have hcz33_1 : wc.cell? ⟨gb155, 1, none⟩ = some (.int .i64 a0_1) := (blk_cell BK155.out 1).trans rfl
            have hcz33_2 : wc.cell? ⟨gb155, 2, none⟩ = some (.int .i64 a0_2) := (blk_cell BK155.out 2).trans rfl
            have hcz33_3 : wc.cell? ⟨gb155, 3, none⟩ = some (.int .i64 a0_3) := (blk_cell BK155.out 3).trans rfl
            have hfz33_0 := blk_frozen BK155.out 0
            have hfz33_1 := blk_frozen BK155.out 1
            have hfz33_2 := blk_frozen BK155.out 2
            have hfz33_3 := blk_frozen BK155.out 3
            go_wp2
            go_ret
            exact ⟨by first | rfl | (simp [errW_none, errW_some] <;> rfl) | (simp [*, errW_none, errW_some] <;> rfl), by repeat (first | (with_reducible first | exact HB.out | apply below_alloc | apply pw_below_drewN | apply below_drew1 | refine below_set ?_ GE155.out) | exact HB.out)⟩
end Go.Proofs.YtemgofomhjabpaaGreatDoor.Core
namespace Go.Proofs.YtemgofomhjabpaaGreatDoor.Core
open Go.RowKit Go.Proofs.YtemgofomhjabpaaGreatDoorW.PrintWords Go.Proofs.YtemgofomhjabpaaGreatDoorW.PrintLast Go.Proofs.YtemgofomhjabpaaGreatDoorW.PrintMore
attribute [local go_sem] max2_int min2_int max_two min_two max_three min_three max_four min_four   -- for this text's walks alone
set_option linter.unusedVariables false
set_option linter.unusedSimpArgs false
def spec_FieldText.l0 : Nat → ByteArray → List (S38) → Int → Int → Option (ByteArray)
  | 0, _, _, _, _ => none
  | k + 1, x3, x6, x7, x8 => if x8 < x7 then (if 0 ≤ x8 then (if x8 < (x6.length : Int) then (if x8 > 0 then (if x3.size + 1 ≤ 9223372036854775807 then ((spec_ItemText.f k ((rd_T38 x6 x8).f0) ((rd_T38 x6 x8).f1) ((rd_T38 x6 x8).f2) ((rd_T38 x6 x8).f3)).bind fun t163 => (if (x3 ++ (⟨#[44]⟩ : ByteArray)).size + t163.size ≤ 9223372036854775807 then (spec_FieldText.l0 k ((x3 ++ (⟨#[44]⟩ : ByteArray)) ++ t163) x6 x7 (wrap64 (x8 + 1))) else (none))) else (none)) else ((spec_ItemText.f k ((rd_T38 x6 x8).f0) ((rd_T38 x6 x8).f1) ((rd_T38 x6 x8).f2) ((rd_T38 x6 x8).f3)).bind fun t164 => (if x3.size + t164.size ≤ 9223372036854775807 then (spec_FieldText.l0 k (x3 ++ t164) x6 x7 (wrap64 (x8 + 1))) else (none)))) else (none)) else (none)) else (some x3)
def spec_FieldText.f (k : Nat) (l0 : List (S38)) : Option (ByteArray) := spec_FieldText.l0 k (⟨#[]⟩ : ByteArray) l0 (l0.length : Int) 0
set_option maxHeartbeats 8000000 in
set_option maxRecDepth 100000 in
theorem spec_FieldText.calls (k : Nat) (A0 : Option Addr) (c0 : Nat) (l0 : List (S38)) (r : ByteArray) (w : World) (hr0 : Kd.C k38 w A0 l0.length l0) (hc0 : l0.length ≤ c0) (h : spec_FieldText.f k l0 = some r) :
    Calls Tryz.prog 16 #[.slice A0 l0.length c0] w fun e w' => e = .returned (.string r) ∧ Below w.heap.size w w' := by
  have hu38 := Tryz.underlying38
  have HR0 := Aside0.mk hr0
  have HC0 := Aside0.mk hc0
  clear hr0 hc0
  have HB := Aside0.mk (Below.refl w.heap.size w)
  have H : (spec_FieldText.l0 k (⟨#[]⟩ : ByteArray) l0 (l0.length : Int) 0) = some r := h
  clear h
  have H' := Aside0.mk H
  clear H
  go_enter Tryz.func16, Tryz.ntmps16
  go_wp2
  go_loopg [3, 8] k (fun kq v3 v8 w' => ∃ (x3_1 : ByteArray) (x8_1 : Int), v3 = .string x3_1 ∧ v8 = .int .i64 x8_1 ∧ Aside0 (spec_FieldText.l0 kq x3_1 l0 (l0.length : Int) x8_1 = some r) ∧ Aside0 (kq ≤ k) ∧ Aside0 (Below w.heap.size w w'))
  case atStart => exact ⟨((⟨#[]⟩ : ByteArray)), (0), (by first | rfl | (simp; done) | (simp [*]; done)), (by first | rfl | (simp; done) | (simp [*]; done)), H', ⟨Nat.le_refl _⟩, ⟨by repeat (first | (with_reducible first | exact HB.out | apply below_alloc | apply pw_below_drewN | apply below_drew1) | exact HB.out)⟩⟩
  case round =>
    clear H'
    try clear c1
    obtain ⟨x3_1, x8_1, rfl, rfl, HA, HK1, HB⟩ := hrel
    cases gk with
    | zero => exact absurd HA.out (by simp [spec_FieldText.l0])
    | succ k1 =>
      have H := HA.out
      clear HA
      simp only [spec_FieldText.l0] at H
      by_cases c2 : x8_1 < (l0.length : Int)
      · rw [if_pos c2] at H
        have c2b0 : decide (x8_1 < (l0.length : Int)) = true := decide_eq_true c2
        clear c2
        by_cases c3 : 0 ≤ x8_1
        · rw [if_pos c3] at H
          have c3b0 : decide (0 ≤ x8_1) = true := decide_eq_true c3
          clear c3
          by_cases c4 : x8_1 < (l0.length : Int)
          · rw [if_pos c4] at H
            have c4b0 : decide (x8_1 < (l0.length : Int)) = true := decide_eq_true c4
            clear c4
            by_cases c5 : x8_1 > 0
            · rw [if_pos c5] at H
              have c5b0 : decide (0 < x8_1) = true := decide_eq_true c5
              clear c5
              by_cases c6 : x3_1.size + 1 ≤ 9223372036854775807
              · rw [if_pos c6] at H
                have c6b0 := eq_true c6
                have c6b1 : decide (x3_1.size + 1 ≤ 9223372036854775807) = true := decide_eq_true c6
                try have c6b2 : (9223372036854775807 < x3_1.size + 1) = False := eq_false (Nat.not_lt.2 c6)
                replace H := Option.bind_eq_some_iff.mp H
                obtain ⟨t163, A70, H⟩ := H
                replace H : (if (x3_1 ++ (⟨#[44]⟩ : ByteArray)).size + t163.size ≤ 9223372036854775807 then (spec_FieldText.l0 k1 ((x3_1 ++ (⟨#[44]⟩ : ByteArray)) ++ t163) l0 (l0.length : Int) (wrap64 (x8_1 + 1))) else (none)) = some r := H
                have A7 := Aside0.mk A70
                clear A70
                by_cases c8 : (x3_1 ++ (⟨#[44]⟩ : ByteArray)).size + t163.size ≤ 9223372036854775807
                · rw [if_pos c8] at H
                  have c8b0 := eq_true c8
                  have c8b1 : decide ((x3_1 ++ (⟨#[44]⟩ : ByteArray)).size + t163.size ≤ 9223372036854775807) = true := decide_eq_true c8
                  try have c8b2 : (9223372036854775807 < (x3_1 ++ (⟨#[44]⟩ : ByteArray)).size + t163.size) = False := eq_false (Nat.not_lt.2 c8)
                  (try have c8b3 : (9223372036854775807 < (x3_1.size + 1) + t163.size) = False := eq_false (Nat.not_lt.2 (by have h_ := c8; (try simp only [ByteArray.size_append] at h_); exact h_)))
                  have H' := Aside0.mk H
                  clear H
                  have p161 : 0 ≤ (x8_1 : Int) := of_decide_eq_true (by first | (with_reducible assumption) | assumption)
                  have q161 : x8_1 < (l0.length : Int) := of_decide_eq_true (by first | (with_reducible assumption) | assumption)
                  obtain ⟨ad161, e161, hx161_0, hx161_1, hx161_2, hx161_3⟩ := at_T38 HR0.out x8_1 p161 q161
                  cases e161
                  replace hx161_0 := (HB.out.cell (World.block_lt_of_cell? w _ hx161_0)).trans hx161_0
                  replace hx161_1 := (HB.out.cell (World.block_lt_of_cell? w _ hx161_1)).trans hx161_1
                  replace hx161_2 := (HB.out.cell (World.block_lt_of_cell? w _ hx161_2)).trans hx161_2
                  replace hx161_3 := (HB.out.cell (World.block_lt_of_cell? w _ hx161_3)).trans hx161_3
                  replace p161 := eq_true p161
                  replace q161 := eq_true q161
                  go_wp2_with (first | ((with_reducible refine gate_dst (N := 5) rfl ?_); refine box_event ?hg (N := 5) ?hd (cs := #[.bool false, .int .i64 0, .int .i64 0, .int .i64 0]) (t := 38) ?hr ?_; (case hd => rfl); (case hg => rfl); (case hr => first | (go_simp; done) | (go_simp; rfl)); intro gb162 hg w9 hbox hb; have n0_ := Aside0.mk (below_step (by repeat (first | (with_reducible first | exact HB.out | apply below_alloc | apply pw_below_drewN | apply below_drew1) | exact HB.out)) hb); have n1_ := Aside0.mk (hbox); have n2_ := Aside0.mk ((by rw [hg]; exact (below_size (by repeat (first | (with_reducible first | exact HB.out | apply below_alloc | apply pw_below_drewN | apply below_drew1) | exact HB.out))) : w.heap.size ≤ gb162)); have n3_ := Aside0.mk ((by rw [hg]; exact (below_size (by repeat (first | (with_reducible first | exact HB.out | apply below_alloc | apply pw_below_drewN | apply below_drew1) | exact HB.out))) : w.heap.size ≤ gb162)); clear HB; have HB := n0_; have BK162 := n1_; have GW162 := n2_; have GE162 := n3_; clear n0_ n1_ n2_ n3_; clear hb hbox hg; have hcz10_0 : w9.cell? ⟨gb162, 0, none⟩ = some (.bool false) := (blk_cell BK162.out 0).trans rfl; have hcz10_1 : w9.cell? ⟨gb162, 1, none⟩ = some (.int .i64 0) := (blk_cell BK162.out 1).trans rfl; have hcz10_2 : w9.cell? ⟨gb162, 2, none⟩ = some (.int .i64 0) := (blk_cell BK162.out 2).trans rfl; have hcz10_3 : w9.cell? ⟨gb162, 3, none⟩ = some (.int .i64 0) := (blk_cell BK162.out 3).trans rfl; have hfz10_0 := blk_frozen BK162.out 0; have hfz10_1 := blk_frozen BK162.out 1; have hfz10_2 := blk_frozen BK162.out 2; have hfz10_3 := blk_frozen BK162.out 3) | ((with_reducible refine gate_callee (f := 34) rfl ?_); refine goesL_ (some 19) rfl rfl Tryz.func34 (by kernel_rfl) rfl #[.agg #[.bool ((rd_T38 l0 x8_1).f0), .int .i64 ((rd_T38 l0 x8_1).f1), .int .i64 ((rd_T38 l0 x8_1).f2), .int .i64 ((rd_T38 l0 x8_1).f3)]] rfl (by (try simp only [List.map_toArray, List.map_cons, List.map_nil]); first | done | rfl | (simp only [List.length_drop, List.length_take]; rfl)) ?_; (with_reducible refine (spec_ItemText.calls k1 ((rd_T38 l0 x8_1).f0) ((rd_T38 l0 x8_1).f1) ((rd_T38 l0 x8_1).f2) ((rd_T38 l0 x8_1).f3) t163 _ A7.out).mono ?_); rintro e w11 ⟨rfl, hb⟩; refine ⟨_, rfl, ?_⟩; have n0_ := Aside0.mk (blk_below (g := gb162) (o := .cells #[.bool ((rd_T38 l0 x8_1).f0), .int .i64 ((rd_T38 l0 x8_1).f1), .int .i64 ((rd_T38 l0 x8_1).f2), .int .i64 ((rd_T38 l0 x8_1).f3)] 38 (0, 0)) (by (with_reducible repeat (first | refine blk_drewN ?_ _ | refine blk_drew ?_ | refine blk_alloc ?_ _)); refine blk_put (cs := #[.bool ((rd_T38 l0 x8_1).f0), .int .i64 ((rd_T38 l0 x8_1).f1), .int .i64 ((rd_T38 l0 x8_1).f2), .int .i64 0]) ?_ 3 _ rfl; (with_reducible repeat (first | refine blk_drewN ?_ _ | refine blk_drew ?_ | refine blk_alloc ?_ _)); refine blk_put (cs := #[.bool ((rd_T38 l0 x8_1).f0), .int .i64 ((rd_T38 l0 x8_1).f1), .int .i64 0, .int .i64 0]) ?_ 2 _ rfl; (with_reducible repeat (first | refine blk_drewN ?_ _ | refine blk_drew ?_ | refine blk_alloc ?_ _)); refine blk_put (cs := #[.bool ((rd_T38 l0 x8_1).f0), .int .i64 0, .int .i64 0, .int .i64 0]) ?_ 1 _ rfl; (with_reducible repeat (first | refine blk_drewN ?_ _ | refine blk_drew ?_ | refine blk_alloc ?_ _)); refine blk_put (cs := #[.bool false, .int .i64 0, .int .i64 0, .int .i64 0]) ?_ 0 _ rfl; (with_reducible repeat (first | refine blk_drewN ?_ _ | refine blk_drew ?_ | refine blk_alloc ?_ _)); exact BK162.out) hb); have n1_ := Aside0.mk (below_step (by repeat (first | (with_reducible first | exact HB.out | apply below_alloc | apply pw_below_drewN | apply below_drew1 | refine below_set ?_ GE162.out) | exact HB.out)) hb); clear BK162; clear HB; have BK162 := n0_; have HB := n1_; clear n0_ n1_; (try clear hb); (try clear hb2); (try clear hk); (try clear hi)))
                  go_roundg k1
                  case measure => have := HK1.out; omega
                  case rel => exact ⟨((x3_1 ++ (⟨#[44]⟩ : ByteArray)) ++ t163), (wrap64 (x8_1 + 1)), (by first | rfl | (simp; done) | (simp [*]; done)), (by first | rfl | (simp; done) | (simp [*]; done)), H', ⟨by have := HK1.out; omega⟩, ⟨by repeat (first | (with_reducible first | exact HB.out | apply below_alloc | apply pw_below_drewN | apply below_drew1 | refine below_set ?_ GE162.out) | exact HB.out)⟩⟩
                · rw [if_neg c8] at H
                  exact absurd H (by simp)
              · rw [if_neg c6] at H
                exact absurd H (by simp)
            · rw [if_neg c5] at H
              have c5b0 : decide (0 < x8_1) = false := decide_eq_false c5
              clear c5
              replace H := Option.bind_eq_some_iff.mp H
              obtain ⟨t164, A120, H⟩ := H
              replace H : (if x3_1.size + t164.size ≤ 9223372036854775807 then (spec_FieldText.l0 k1 (x3_1 ++ t164) l0 (l0.length : Int) (wrap64 (x8_1 + 1))) else (none)) = some r := H
              have A12 := Aside0.mk A120
              clear A120
              by_cases c13 : x3_1.size + t164.size ≤ 9223372036854775807
              · rw [if_pos c13] at H
                have c13b0 := eq_true c13
                have c13b1 : decide (x3_1.size + t164.size ≤ 9223372036854775807) = true := decide_eq_true c13
                try have c13b2 : (9223372036854775807 < x3_1.size + t164.size) = False := eq_false (Nat.not_lt.2 c13)
                have H' := Aside0.mk H
                clear H
                have p161 : 0 ≤ (x8_1 : Int) := of_decide_eq_true (by first | (with_reducible assumption) | assumption)
                have q161 : x8_1 < (l0.length : Int) := of_decide_eq_true (by first | (with_reducible assumption) | assumption)
                obtain ⟨ad161, e161, hx161_0, hx161_1, hx161_2, hx161_3⟩ := at_T38 HR0.out x8_1 p161 q161
                cases e161
                replace hx161_0 := (HB.out.cell (World.block_lt_of_cell? w _ hx161_0)).trans hx161_0
                replace hx161_1 := (HB.out.cell (World.block_lt_of_cell? w _ hx161_1)).trans hx161_1
                replace hx161_2 := (HB.out.cell (World.block_lt_of_cell? w _ hx161_2)).trans hx161_2
                replace hx161_3 := (HB.out.cell (World.block_lt_of_cell? w _ hx161_3)).trans hx161_3
                replace p161 := eq_true p161
                replace q161 := eq_true q161
                go_wp2_with (first | ((with_reducible refine gate_dst (N := 5) rfl ?_); refine box_event ?hg (N := 5) ?hd (cs := #[.bool false, .int .i64 0, .int .i64 0, .int .i64 0]) (t := 38) ?hr ?_; (case hd => rfl); (case hg => rfl); (case hr => first | (go_simp; done) | (go_simp; rfl)); intro gb162 hg w14 hbox hb; have n0_ := Aside0.mk (below_step (by repeat (first | (with_reducible first | exact HB.out | apply below_alloc | apply pw_below_drewN | apply below_drew1) | exact HB.out)) hb); have n1_ := Aside0.mk (hbox); have n2_ := Aside0.mk ((by rw [hg]; exact (below_size (by repeat (first | (with_reducible first | exact HB.out | apply below_alloc | apply pw_below_drewN | apply below_drew1) | exact HB.out))) : w.heap.size ≤ gb162)); have n3_ := Aside0.mk ((by rw [hg]; exact (below_size (by repeat (first | (with_reducible first | exact HB.out | apply below_alloc | apply pw_below_drewN | apply below_drew1) | exact HB.out))) : w.heap.size ≤ gb162)); clear HB; have HB := n0_; have BK162 := n1_; have GW162 := n2_; have GE162 := n3_; clear n0_ n1_ n2_ n3_; clear hb hbox hg; have hcz15_0 : w14.cell? ⟨gb162, 0, none⟩ = some (.bool false) := (blk_cell BK162.out 0).trans rfl; have hcz15_1 : w14.cell? ⟨gb162, 1, none⟩ = some (.int .i64 0) := (blk_cell BK162.out 1).trans rfl; have hcz15_2 : w14.cell? ⟨gb162, 2, none⟩ = some (.int .i64 0) := (blk_cell BK162.out 2).trans rfl; have hcz15_3 : w14.cell? ⟨gb162, 3, none⟩ = some (.int .i64 0) := (blk_cell BK162.out 3).trans rfl; have hfz15_0 := blk_frozen BK162.out 0; have hfz15_1 := blk_frozen BK162.out 1; have hfz15_2 := blk_frozen BK162.out 2; have hfz15_3 := blk_frozen BK162.out 3) | ((with_reducible refine gate_callee (f := 34) rfl ?_); refine goesL_ (some 19) rfl rfl Tryz.func34 (by kernel_rfl) rfl #[.agg #[.bool ((rd_T38 l0 x8_1).f0), .int .i64 ((rd_T38 l0 x8_1).f1), .int .i64 ((rd_T38 l0 x8_1).f2), .int .i64 ((rd_T38 l0 x8_1).f3)]] rfl (by (try simp only [List.map_toArray, List.map_cons, List.map_nil]); first | done | rfl | (simp only [List.length_drop, List.length_take]; rfl)) ?_; (with_reducible refine (spec_ItemText.calls k1 ((rd_T38 l0 x8_1).f0) ((rd_T38 l0 x8_1).f1) ((rd_T38 l0 x8_1).f2) ((rd_T38 l0 x8_1).f3) t164 _ A12.out).mono ?_); rintro e w16 ⟨rfl, hb⟩; refine ⟨_, rfl, ?_⟩; have n0_ := Aside0.mk (blk_below (g := gb162) (o := .cells #[.bool ((rd_T38 l0 x8_1).f0), .int .i64 ((rd_T38 l0 x8_1).f1), .int .i64 ((rd_T38 l0 x8_1).f2), .int .i64 ((rd_T38 l0 x8_1).f3)] 38 (0, 0)) (by (with_reducible repeat (first | refine blk_drewN ?_ _ | refine blk_drew ?_ | refine blk_alloc ?_ _)); refine blk_put (cs := #[.bool ((rd_T38 l0 x8_1).f0), .int .i64 ((rd_T38 l0 x8_1).f1), .int .i64 ((rd_T38 l0 x8_1).f2), .int .i64 0]) ?_ 3 _ rfl; (with_reducible repeat (first | refine blk_drewN ?_ _ | refine blk_drew ?_ | refine blk_alloc ?_ _)); refine blk_put (cs := #[.bool ((rd_T38 l0 x8_1).f0), .int .i64 ((rd_T38 l0 x8_1).f1), .int .i64 0, .int .i64 0]) ?_ 2 _ rfl; (with_reducible repeat (first | refine blk_drewN ?_ _ | refine blk_drew ?_ | refine blk_alloc ?_ _)); refine blk_put (cs := #[.bool ((rd_T38 l0 x8_1).f0), .int .i64 0, .int .i64 0, .int .i64 0]) ?_ 1 _ rfl; (with_reducible repeat (first | refine blk_drewN ?_ _ | refine blk_drew ?_ | refine blk_alloc ?_ _)); refine blk_put (cs := #[.bool false, .int .i64 0, .int .i64 0, .int .i64 0]) ?_ 0 _ rfl; (with_reducible repeat (first | refine blk_drewN ?_ _ | refine blk_drew ?_ | refine blk_alloc ?_ _)); exact BK162.out) hb); have n1_ := Aside0.mk (below_step (by repeat (first | (with_reducible first | exact HB.out | apply below_alloc | apply pw_below_drewN | apply below_drew1 | refine below_set ?_ GE162.out) | exact HB.out)) hb); clear BK162; clear HB; have BK162 := n0_; have HB := n1_; clear n0_ n1_; (try clear hb); (try clear hb2); (try clear hk); (try clear hi)))
                go_roundg k1
                case measure => have := HK1.out; omega
                case rel => exact ⟨(x3_1 ++ t164), (wrap64 (x8_1 + 1)), (by first | rfl | (simp; done) | (simp [*]; done)), (by first | rfl | (simp; done) | (simp [*]; done)), H', ⟨by have := HK1.out; omega⟩, ⟨by repeat (first | (with_reducible first | exact HB.out | apply below_alloc | apply pw_below_drewN | apply below_drew1 | refine below_set ?_ GE162.out) | exact HB.out)⟩⟩
              · rw [if_neg c13] at H
                exact absurd H (by simp)
          · rw [if_neg c4] at H
            exact absurd H (by simp)
        · rw [if_neg c3] at H
          exact absurd H (by simp)
      · rw [if_neg c2] at H
        have c2b0 : decide (x8_1 < (l0.length : Int)) = false := decide_eq_false c2
        clear c2
        obtain rfl := Option.some.inj H
        go_wp2
        go_ret
        exact ⟨by first | rfl | (simp [errW_none, errW_some] <;> rfl) | (simp [*, errW_none, errW_some] <;> rfl), by repeat (first | (with_reducible first | exact HB.out | apply below_alloc | apply pw_below_drewN | apply below_drew1) | exact HB.out)⟩
end Go.Proofs.YtemgofomhjabpaaGreatDoor.Core
namespace Go.Proofs.YtemgofomhjabpaaGreatDoor.Core
open Go.RowKit Go.Proofs.YtemgofomhjabpaaGreatDoorW.PrintWords Go.Proofs.YtemgofomhjabpaaGreatDoorW.PrintLast Go.Proofs.YtemgofomhjabpaaGreatDoorW.PrintMore
attribute [local go_sem] max2_int min2_int max_two min_two max_three min_three max_four min_four   -- for this text's walks alone
set_option linter.unusedVariables false
set_option linter.unusedSimpArgs false
mutual
def spec_Text.l0 : Nat → ByteArray → List (List (S38)) → Int → Int → List (List (S38)) → Bool → Option (ByteArray)
  | 0, _, _, _, _, _, _ => none
  | k + 1, x3, x7, x8, x9, x249000, x249001 => if x9 < x8 then (if 0 ≤ x9 then (if x9 < (x7.length : Int) then (if x9 = 0 then (spec_Text.j1 k x3 (rd_L5 x7 x9) x7 x8 x9 (!x249001) x249000 x249001) else (spec_Text.j1 k x3 (rd_L5 x7 x9) x7 x8 x9 false x249000 x249001)) else (none)) else (none)) else (some x3)
def spec_Text.j1 : Nat → ByteArray → List (S38) → List (List (S38)) → Int → Int → Bool → List (List (S38)) → Bool → Option (ByteArray)
  | 0, _, _, _, _, _, _, _, _ => none
  | k + 1, x3, x5, x7, x8, x9, x20, x249000, x249001 => if x20 = true then (spec_Text.l0 k x3 x7 x8 (wrap64 (x9 + 1)) x249000 x249001) else (if x3.toList = ([] : List UInt8) then ((spec_FieldText.f k x5).bind fun t250 => (if x3.size + t250.size ≤ 9223372036854775807 then (spec_Text.l0 k (x3 ++ t250) x7 x8 (wrap64 (x9 + 1)) x249000 x249001) else (none))) else (if x3.size + 1 ≤ 9223372036854775807 then ((spec_FieldText.f k x5).bind fun t251 => (if (x3 ++ (⟨#[32]⟩ : ByteArray)).size + t251.size ≤ 9223372036854775807 then (spec_Text.l0 k ((x3 ++ (⟨#[32]⟩ : ByteArray)) ++ t251) x7 x8 (wrap64 (x9 + 1)) x249000 x249001) else (none))) else (none)))
end
def spec_Text.f (k : Nat) (l0_0 : List (List (S38))) (a0_1 : Bool) : Option (ByteArray) := spec_Text.l0 k (⟨#[]⟩ : ByteArray) l0_0 (l0_0.length : Int) 0 l0_0 a0_1
set_option maxHeartbeats 8000000 in
set_option maxRecDepth 100000 in
theorem spec_Text.calls (k : Nat) (A0_0 : Option Addr) (c0_0 : Nat) (l0_0 : List (List (S38))) (a0_1 : Bool) (r : ByteArray) (w : World) (hr0_0 : Kd.C (Kd.slice 38 k38) w A0_0 l0_0.length l0_0) (hc0_0 : l0_0.length ≤ c0_0) (h : spec_Text.f k l0_0 a0_1 = some r) :
    Calls Tryz.prog 15 #[.agg #[.slice A0_0 l0_0.length c0_0, .bool a0_1]] w fun e w' => e = .returned (.string r) ∧ Below w.heap.size w w' := by
  have hu30 := Tryz.underlying30
  have HR0_0 := Aside0.mk hr0_0
  have HC0_0 := Aside0.mk hc0_0
  clear hr0_0 hc0_0
  have HB := Aside0.mk (Below.refl w.heap.size w)
  have H : (spec_Text.l0 k (⟨#[]⟩ : ByteArray) l0_0 (l0_0.length : Int) 0 l0_0 a0_1) = some r := h
  clear h
  have H' := Aside0.mk H
  clear H
  go_enter Tryz.func15, Tryz.ntmps15
  go_wp2_with (first | ((with_reducible refine gate_dst (N := 1) rfl ?_); refine box_event ?hg (N := 1) ?hd (cs := #[.slice A0_0 l0_0.length c0_0, .bool a0_1]) (t := 30) ?hr ?_; (case hd => rfl); (case hg => rfl); (case hr => first | (go_simp; done) | (go_simp; rfl)); intro gb248 hg w2 hbox hb; have n0_ := Aside0.mk (below_step (by repeat (first | (with_reducible first | exact HB.out | apply below_alloc | apply pw_below_drewN | apply below_drew1) | exact HB.out)) hb); have n1_ := Aside0.mk (hbox); have n2_ := Aside0.mk ((by rw [hg]; exact (below_size (by repeat (first | (with_reducible first | exact HB.out | apply below_alloc | apply pw_below_drewN | apply below_drew1) | exact HB.out))) : w.heap.size ≤ gb248)); have n3_ := Aside0.mk ((by rw [hg]; exact (below_size (by repeat (first | (with_reducible first | exact HB.out | apply below_alloc | apply pw_below_drewN | apply below_drew1) | exact HB.out))) : w.heap.size ≤ gb248)); clear HB; have HB := n0_; have BK248 := n1_; have GW248 := n2_; have GE248 := n3_; clear n0_ n1_ n2_ n3_; clear hb hbox hg; have hcz3_0 : w2.cell? ⟨gb248, 0, none⟩ = some (.slice A0_0 l0_0.length c0_0) := (blk_cell BK248.out 0).trans rfl; have hcz3_1 : w2.cell? ⟨gb248, 1, none⟩ = some (.bool a0_1) := (blk_cell BK248.out 1).trans rfl; have hfz3_0 := blk_frozen BK248.out 0; have hfz3_1 := blk_frozen BK248.out 1))
  go_loopg [3, 9] k (fun kq v3 v9 w' => ∃ (x3_1 : ByteArray) (x9_1 : Int), v3 = .string x3_1 ∧ v9 = .int .i64 x9_1 ∧ Aside0 (spec_Text.l0 kq x3_1 l0_0 (l0_0.length : Int) x9_1 l0_0 a0_1 = some r) ∧ Aside0 (kq ≤ k) ∧ Aside0 (w'.heap[gb248]? = some (.cells #[(.slice A0_0 l0_0.length c0_0), .bool a0_1] 30 (0, 0))) ∧ Aside0 (Below w.heap.size w w'))
  case atStart => exact ⟨((⟨#[]⟩ : ByteArray)), (0), (by first | rfl | (simp; done) | (simp [*]; done)), (by first | rfl | (simp; done) | (simp [*]; done)), H', ⟨Nat.le_refl _⟩, ⟨by (with_reducible repeat (first | refine blk_drewN ?_ _ | refine blk_drew ?_ | refine blk_alloc ?_ _)); exact BK248.out⟩, ⟨by repeat (first | (with_reducible first | exact HB.out | apply below_alloc | apply pw_below_drewN | apply below_drew1 | refine below_set ?_ GE248.out) | exact HB.out)⟩⟩
  case round =>
    clear H'
    try clear c1
    try clear p2
    try clear hcz3_0
    try clear hcz3_1
    try clear hfz3_0
    try clear hfz3_1
    obtain ⟨x3_1, x9_1, rfl, rfl, HA, HK1, BK248, HB⟩ := hrel
    cases gk with
    | zero => exact absurd HA.out (by simp [spec_Text.l0])
    | succ k1 =>
      have H := HA.out
      clear HA
      simp only [spec_Text.l0] at H
      by_cases c4 : x9_1 < (l0_0.length : Int)
      · rw [if_pos c4] at H
        have c4b0 : decide (x9_1 < (l0_0.length : Int)) = true := decide_eq_true c4
        clear c4
        by_cases c5 : 0 ≤ x9_1
        · rw [if_pos c5] at H
          have c5b0 : decide (0 ≤ x9_1) = true := decide_eq_true c5
          clear c5
          by_cases c6 : x9_1 < (l0_0.length : Int)
          · rw [if_pos c6] at H
            have c6b0 : decide (x9_1 < (l0_0.length : Int)) = true := decide_eq_true c6
            clear c6
            have HC7 := Aside0.mk H
            clear H
            have p249 : 0 ≤ (x9_1 : Int) := of_decide_eq_true (by first | (with_reducible assumption) | assumption)
            have q249 : x9_1 < (l0_0.length : Int) := of_decide_eq_true (by first | (with_reducible assumption) | assumption)
            obtain ⟨ad249, A249_0, c249_0, e249, hx249_0, hl249_0, hi249_0⟩ := at_L5 HR0_0.out x9_1 p249 q249
            cases e249
            replace hx249_0 := (HB.out.cell (World.block_lt_of_cell? w _ hx249_0)).trans hx249_0
            have HR249_0 := Aside0.mk hi249_0
            have HC249_0 := Aside0.mk hl249_0
            clear hi249_0 hl249_0
            replace p249 := eq_true p249
            replace q249 := eq_true q249
            go_upto_region 5 with (fail)
            go_cut [20] (fun v20 wc => ∃ (kq : Nat) (x20_6 : Bool), v20 = .bool x20_6 ∧ Aside0 (spec_Text.j1 kq x3_1 (rd_L5 l0_0 x9_1) l0_0 (l0_0.length : Int) x9_1 x20_6 l0_0 a0_1 = some r) ∧ Aside0 (kq ≤ k1) ∧ Aside0 (wc.heap[gb248]? = some (.cells #[(.slice (some ad249) l0_0.length c0_0), .bool a0_1] 30 (0, 0))) ∧ Aside0 (Below w.heap.size w wc))
            case first =>
              have H := HC7.out
              clear HC7
              by_cases c8 : x9_1 = 0
              · rw [if_pos c8] at H
                have c8b0 : (x9_1 == 0) = true := beq_iff_eq.mpr c8
                have c8b1 : (x9_1 != 0) = false := bne_eq_false_iff_eq.mpr c8
                clear c8
                (first | rw [c8b0] | (simp only [i64_w, i32_w]; rw [c8b0]) | skip)
                have H' := Aside0.mk H
                clear H
                have hcz9_0 : wr.cell? ⟨gb248, 0, none⟩ = some (.slice (some ad249) l0_0.length c0_0) := (blk_cell BK248.out 0).trans rfl
                have hcz9_1 : wr.cell? ⟨gb248, 1, none⟩ = some (.bool a0_1) := (blk_cell BK248.out 1).trans rfl
                have hfz9_0 := blk_frozen BK248.out 0
                have hfz9_1 := blk_frozen BK248.out 1
                go_wp2
                go_meet
                case rel => exact ⟨_, (!a0_1), (by first | rfl | (simp; done) | (simp [*]; done)), H', ⟨by have := HK1.out; first | omega | exact Nat.le_refl _⟩, ⟨by (with_reducible repeat (first | refine blk_drewN ?_ _ | refine blk_drew ?_ | refine blk_alloc ?_ _)); exact BK248.out⟩, ⟨by repeat (first | (with_reducible first | exact HB.out | apply below_alloc | apply pw_below_drewN | apply below_drew1 | refine below_set ?_ GE248.out) | exact HB.out)⟩⟩
              · rw [if_neg c8] at H
                have c8b0 : (x9_1 == 0) = false := beq_eq_false_iff_ne.mpr c8
                have c8b1 : (x9_1 != 0) = true := bne_iff_ne.mpr c8
                (first | rw [c8b0] | (simp only [i64_w, i32_w]; rw [c8b0]) | skip)
                have H' := Aside0.mk H
                clear H
                go_wp2
                go_meet
                case rel => exact ⟨_, (false), (by first | rfl | (simp; done) | (simp [*]; done)), H', ⟨by have := HK1.out; first | omega | exact Nat.le_refl _⟩, ⟨by (with_reducible repeat (first | refine blk_drewN ?_ _ | refine blk_drew ?_ | refine blk_alloc ?_ _)); exact BK248.out⟩, ⟨by repeat (first | (with_reducible first | exact HB.out | apply below_alloc | apply pw_below_drewN | apply below_drew1 | refine below_set ?_ GE248.out) | exact HB.out)⟩⟩
            case rest =>
              clear HC7
              try clear c1
              try clear c2
              try clear p2
              try clear q2
              try clear hx2
              try clear c4
              try clear c4b0
              try clear c5
              try clear c5b0
              try clear c6
              try clear c6b0
              try clear c8
              try clear c8b0
              try clear c8b1
              try clear hcz3_0
              try clear hcz3_1
              try clear hcz9_0
              try clear hcz9_1
              try clear hfz3_0
              try clear hfz3_1
              try clear hfz9_0
              try clear hfz9_1
              try clear hx249_0
              try clear p2
              try clear p249
              try clear q249
              obtain ⟨kq, x20_6, rfl, HA, HJ6, BK248, HB⟩ := hcut
              cases kq with
              | zero => exact absurd HA.out (by simp [spec_Text.j1])
              | succ kj6 =>
                have H := HA.out
                clear HA
                simp only [spec_Text.j1] at H
                by_cases c10 : x20_6 = true
                · subst c10
                  have H1 : (spec_Text.l0 kj6 x3_1 l0_0 (l0_0.length : Int) (wrap64 (x9_1 + 1)) l0_0 a0_1) = some r := by rw [if_pos rfl] at H; exact H
                  clear H
                  have H := H1
                  clear H1
                  have H' := Aside0.mk H
                  clear H
                  go_wp2
                  go_roundg kj6
                  case measure => have := HK1.out; have := HJ6.out; omega
                  case rel => exact ⟨(x3_1), (wrap64 (x9_1 + 1)), (by first | rfl | (simp; done) | (simp [*]; done)), (by first | rfl | (simp; done) | (simp [*]; done)), H', ⟨by have := HK1.out; have := HJ6.out; omega⟩, ⟨by (with_reducible repeat (first | refine blk_drewN ?_ _ | refine blk_drew ?_ | refine blk_alloc ?_ _)); exact BK248.out⟩, ⟨by repeat (first | (with_reducible first | exact HB.out | apply below_alloc | apply pw_below_drewN | apply below_drew1 | refine below_set ?_ GE248.out) | exact HB.out)⟩⟩
                · replace c10 := Bool.eq_false_iff.mpr c10
                  subst c10
                  have H1 : (if x3_1.toList = ([] : List UInt8) then ((spec_FieldText.f kj6 (rd_L5 l0_0 x9_1)).bind fun t250 => (if x3_1.size + t250.size ≤ 9223372036854775807 then (spec_Text.l0 kj6 (x3_1 ++ t250) l0_0 (l0_0.length : Int) (wrap64 (x9_1 + 1)) l0_0 a0_1) else (none))) else (if x3_1.size + 1 ≤ 9223372036854775807 then ((spec_FieldText.f kj6 (rd_L5 l0_0 x9_1)).bind fun t251 => (if (x3_1 ++ (⟨#[32]⟩ : ByteArray)).size + t251.size ≤ 9223372036854775807 then (spec_Text.l0 kj6 ((x3_1 ++ (⟨#[32]⟩ : ByteArray)) ++ t251) l0_0 (l0_0.length : Int) (wrap64 (x9_1 + 1)) l0_0 a0_1) else (none))) else (none))) = some r := by rw [if_neg (show ¬ (false = true) by decide)] at H; exact H
                  clear H
                  have H := H1
                  clear H1
                  by_cases c11 : x3_1.toList = ([] : List UInt8)
                  · rw [if_pos c11] at H
                    have c11b0 : (x3_1.toList == ([] : List UInt8)) = true := beq_iff_eq.mpr c11
                    have c11b1 : (x3_1.toList != ([] : List UInt8)) = false := bne_eq_false_iff_eq.mpr c11
                    clear c11
                    replace H := Option.bind_eq_some_iff.mp H
                    obtain ⟨t250, A120, H⟩ := H
                    replace H : (if x3_1.size + t250.size ≤ 9223372036854775807 then (spec_Text.l0 kj6 (x3_1 ++ t250) l0_0 (l0_0.length : Int) (wrap64 (x9_1 + 1)) l0_0 a0_1) else (none)) = some r := H
                    have A12 := Aside0.mk A120
                    clear A120
                    by_cases c13 : x3_1.size + t250.size ≤ 9223372036854775807
                    · rw [if_pos c13] at H
                      have c13b0 := eq_true c13
                      have c13b1 : decide (x3_1.size + t250.size ≤ 9223372036854775807) = true := decide_eq_true c13
                      try have c13b2 : (9223372036854775807 < x3_1.size + t250.size) = False := eq_false (Nat.not_lt.2 c13)
                      have H' := Aside0.mk H
                      clear H
                      go_wp2_with (first | ((with_reducible refine gate_callee (f := 16) rfl ?_); refine goesL_ (some 27) rfl rfl Tryz.func16 (by kernel_rfl) rfl #[.slice A249_0 (rd_L5 l0_0 x9_1).length c249_0] rfl (by (try simp only [List.map_toArray, List.map_cons, List.map_nil]); first | done | rfl | (simp only [List.length_drop, List.length_take]; rfl)) ?_; (with_reducible refine (spec_FieldText.calls kj6 _ _ (rd_L5 l0_0 x9_1) t250 _ ?side1 ?side2 A12.out).mono ?_); (case side1 => repeat (first | exact (Kd.C_below HR249_0.out HB.out) | (with_reducible refine Kd.C_alloc ?_ _) | (with_reducible refine Kd.C_drewN ?_ _) | (with_reducible refine Kd.C_drew ?_))); (case side2 => exact HC249_0.out); rintro e w14 ⟨rfl, hb⟩; refine ⟨_, rfl, ?_⟩; have n0_ := Aside0.mk (blk_below (g := gb248) (o := .cells #[.slice (some ad249) l0_0.length c0_0, .bool a0_1] 30 (0, 0)) (by (with_reducible repeat (first | refine blk_drewN ?_ _ | refine blk_drew ?_ | refine blk_alloc ?_ _)); exact BK248.out) hb); have n1_ := Aside0.mk (below_step (by repeat (first | (with_reducible first | exact HB.out | apply below_alloc | apply pw_below_drewN | apply below_drew1 | refine below_set ?_ GE248.out) | exact HB.out)) hb); clear BK248; clear HB; have BK248 := n0_; have HB := n1_; clear n0_ n1_; (try clear hb); (try clear hb2); (try clear hk); (try clear hi)))
                      go_roundg kj6
                      case measure => have := HK1.out; have := HJ6.out; omega
                      case rel => exact ⟨(x3_1 ++ t250), (wrap64 (x9_1 + 1)), (by first | rfl | (simp; done) | (simp [*]; done)), (by first | rfl | (simp; done) | (simp [*]; done)), H', ⟨by have := HK1.out; have := HJ6.out; omega⟩, ⟨by (with_reducible repeat (first | refine blk_drewN ?_ _ | refine blk_drew ?_ | refine blk_alloc ?_ _)); exact BK248.out⟩, ⟨by repeat (first | (with_reducible first | exact HB.out | apply below_alloc | apply pw_below_drewN | apply below_drew1 | refine below_set ?_ GE248.out) | exact HB.out)⟩⟩
                    · rw [if_neg c13] at H
                      exact absurd H (by simp)
                  · rw [if_neg c11] at H
                    have c11b0 : (x3_1.toList == ([] : List UInt8)) = false := beq_eq_false_iff_ne.mpr c11
                    have c11b1 : (x3_1.toList != ([] : List UInt8)) = true := bne_iff_ne.mpr c11
                    by_cases c15 : x3_1.size + 1 ≤ 9223372036854775807
                    · rw [if_pos c15] at H
                      have c15b0 := eq_true c15
                      have c15b1 : decide (x3_1.size + 1 ≤ 9223372036854775807) = true := decide_eq_true c15
                      try have c15b2 : (9223372036854775807 < x3_1.size + 1) = False := eq_false (Nat.not_lt.2 c15)
                      replace H := Option.bind_eq_some_iff.mp H
                      obtain ⟨t251, A160, H⟩ := H
                      replace H : (if (x3_1 ++ (⟨#[32]⟩ : ByteArray)).size + t251.size ≤ 9223372036854775807 then (spec_Text.l0 kj6 ((x3_1 ++ (⟨#[32]⟩ : ByteArray)) ++ t251) l0_0 (l0_0.length : Int) (wrap64 (x9_1 + 1)) l0_0 a0_1) else (none)) = some r := H
                      have A16 := Aside0.mk A160
                      clear A160
                      by_cases c17 : (x3_1 ++ (⟨#[32]⟩ : ByteArray)).size + t251.size ≤ 9223372036854775807
                      · rw [if_pos c17] at H
                        have c17b0 := eq_true c17
                        have c17b1 : decide ((x3_1 ++ (⟨#[32]⟩ : ByteArray)).size + t251.size ≤ 9223372036854775807) = true := decide_eq_true c17
                        try have c17b2 : (9223372036854775807 < (x3_1 ++ (⟨#[32]⟩ : ByteArray)).size + t251.size) = False := eq_false (Nat.not_lt.2 c17)
                        (try have c17b3 : (9223372036854775807 < (x3_1.size + 1) + t251.size) = False := eq_false (Nat.not_lt.2 (by have h_ := c17; (try simp only [ByteArray.size_append] at h_); exact h_)))
                        have H' := Aside0.mk H
                        clear H
                        go_wp2_with (first | ((with_reducible refine gate_callee (f := 16) rfl ?_); refine goesL_ (some 27) rfl rfl Tryz.func16 (by kernel_rfl) rfl #[.slice A249_0 (rd_L5 l0_0 x9_1).length c249_0] rfl (by (try simp only [List.map_toArray, List.map_cons, List.map_nil]); first | done | rfl | (simp only [List.length_drop, List.length_take]; rfl)) ?_; (with_reducible refine (spec_FieldText.calls kj6 _ _ (rd_L5 l0_0 x9_1) t251 _ ?side1 ?side2 A16.out).mono ?_); (case side1 => repeat (first | exact (Kd.C_below HR249_0.out HB.out) | (with_reducible refine Kd.C_alloc ?_ _) | (with_reducible refine Kd.C_drewN ?_ _) | (with_reducible refine Kd.C_drew ?_))); (case side2 => exact HC249_0.out); rintro e w18 ⟨rfl, hb⟩; refine ⟨_, rfl, ?_⟩; have n0_ := Aside0.mk (blk_below (g := gb248) (o := .cells #[.slice (some ad249) l0_0.length c0_0, .bool a0_1] 30 (0, 0)) (by (with_reducible repeat (first | refine blk_drewN ?_ _ | refine blk_drew ?_ | refine blk_alloc ?_ _)); exact BK248.out) hb); have n1_ := Aside0.mk (below_step (by repeat (first | (with_reducible first | exact HB.out | apply below_alloc | apply pw_below_drewN | apply below_drew1 | refine below_set ?_ GE248.out) | exact HB.out)) hb); clear BK248; clear HB; have BK248 := n0_; have HB := n1_; clear n0_ n1_; (try clear hb); (try clear hb2); (try clear hk); (try clear hi)))
                        go_roundg kj6
                        case measure => have := HK1.out; have := HJ6.out; omega
                        case rel => exact ⟨((x3_1 ++ (⟨#[32]⟩ : ByteArray)) ++ t251), (wrap64 (x9_1 + 1)), (by first | rfl | (simp; done) | (simp [*]; done)), (by first | rfl | (simp; done) | (simp [*]; done)), H', ⟨by have := HK1.out; have := HJ6.out; omega⟩, ⟨by (with_reducible repeat (first | refine blk_drewN ?_ _ | refine blk_drew ?_ | refine blk_alloc ?_ _)); exact BK248.out⟩, ⟨by repeat (first | (with_reducible first | exact HB.out | apply below_alloc | apply pw_below_drewN | apply below_drew1 | refine below_set ?_ GE248.out) | exact HB.out)⟩⟩
                      · rw [if_neg c17] at H
                        exact absurd H (by simp)
                    · rw [if_neg c15] at H
                      exact absurd H (by simp)
          · rw [if_neg c6] at H
            exact absurd H (by simp)
        · rw [if_neg c5] at H
          exact absurd H (by simp)
      · rw [if_neg c4] at H
        have c4b0 : decide (x9_1 < (l0_0.length : Int)) = false := decide_eq_false c4
        clear c4
        obtain rfl := Option.some.inj H
        go_wp2
        go_ret
        exact ⟨by first | rfl | (simp [errW_none, errW_some] <;> rfl) | (simp [*, errW_none, errW_some] <;> rfl), by repeat (first | (with_reducible first | exact HB.out | apply below_alloc | apply pw_below_drewN | apply below_drew1 | refine below_set ?_ GE248.out) | exact HB.out)⟩
end Go.Proofs.YtemgofomhjabpaaGreatDoor.Core
