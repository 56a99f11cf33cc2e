/- Contracts and plain lemmas of this seat (part 2), merged by wip/merge2.py; what is proved stands in the claim's last text. -/
import Derived.Test.YtemgofomhjabpaaGreatDoorCRan1
import Derived.Test.YtemgofomhjabpaaGreatDoorProg
import Derived.Below
import Derived.Deep.Draws
import Derived.Deep.AppendLies
import Derived.Maps.AppendAt
import Derived.OwnWalk
import Derived.Laws.BytesArg
import Derived.Laws.MakeOwn
import Derived.Laws.OwnMore
import Derived.Deep.OwnRows
import Derived.Tactics
import Derived.Lib.ConvBytes
import Derived.Laws.Slices
import Derived.WalkKit
import Derived.KernelRfl
import Derived.RowKit3
import Derived.Deep.LoopGhost
import Derived.Deep.QuietTactic
import Derived.BigQuiet
import Derived.WideLaws
import Derived.Deep.DeepCutAuto
import Derived.Deep.CutBlock
import Derived.Deep.RegionHeld3
import Derived.Laws.Rows
import Derived.Lib.AppendStr
import Derived.ArgAppend
import Derived.Laws.IdiomCopy
import Derived.OrdersHeld
import Derived.Laws.BitsLemmas
import Derived.RowKit
import Derived.ChangeKeysEq
import Derived.Barred
namespace Go.Proofs.YtemgofomhjabpaaGreatDoor.Core
open Go.RowKit Go.Proofs.YtemgofomhjabpaaGreatDoorW.PrintWords Go.Proofs.YtemgofomhjabpaaGreatDoorW.PrintLast Go.Proofs.YtemgofomhjabpaaGreatDoorW.PrintMore
attribute [local go_sem] max2_int min2_int max_two min_two max_three min_three max_four min_four   -- for this text's walks alone
set_option linter.unusedVariables false
set_option linter.unusedSimpArgs false
def errW : Option Int → Value
  | none => .nilIface
  | some c => .iface 0 (.int .i64 c)
theorem errW_none : errW none = .nilIface := rfl
theorem errW_some (c : Int) : errW (some c) = .iface 0 (.int .i64 c) := rfl
theorem info5 : (Tryz.prog.info? 5).map (fun i => (i.zero, i.size, i.bytes)) = some (some (.int .u8 0), 1, 1) := by kernel_rfl
theorem info9 : (Tryz.prog.info? 9).map (fun i => (i.zero, i.size, i.bytes)) = some (some (.string ⟨#[]⟩), 1, 16) := by kernel_rfl
structure S69 where
  f0 : Bool
  f1 : Int
  f2 : Int
  f3 : Int
structure S38 where
  f0 : Bool
  f1 : Int
  f2 : Int
  f3 : Int
structure S43 where
  f0 : Int
  f1 : Int
  f2 : Int
  f3 : Int
  f4 : Int
  f5 : Int
structure S26 where
  f0 : Int
  f1 : Int
  f2 : Int
  f3 : Int
  f4 : Int
  f5 : Int
structure S24 where
  f0 : (List (List S69))
  f1 : Bool
structure S30 where
  f0 : (List (List S38))
  f1 : Bool
def errors_New.f (_a0 : ByteArray) : Option (Option Int) := none
theorem errors_New.calls (a0 : ByteArray) (r : Option Int) (w : World) (h : errors_New.f a0 = some r) :
    Calls Tryz.prog 47 #[.string a0] w fun e w' => e = .returned (errW r) ∧ Below w.heap.size w w' := by cases h
theorem index_arr {P : Program} (t e : TypeId) (n : Nat) (k : IntKind) (l : List Int) (j : Int) (h : P.underlying t = some (.array n e)) (he : P.plainKey e = true) (hz : ∀ w, (sizeOf e).run P w = .ok 1 w) (hl : l.length = n) (h0 : 0 ≤ j) (h1 : j < n) (w : World) :
    (Instr.index t (.agg (l.map fun x => Value.int k x).toArray) (.int .i64 j)).run P w = .ok (.int k (rd l j)) w := by
  have hx : ((l.map fun x => Value.int k x).toArray)[j.toNat * 1]? = some (.int k (rd l j)) := by
    have : j.toNat < l.length := by omega
    simp [rd, this]
  have hp := run_part_plain (w := w) he hx
  have e1 : (Instr.index t (.agg (l.map fun x => Value.int k x).toArray) (.int .i64 j)).run P w = (part e (l.map fun x => Value.int k x).toArray (j.toNat * 1)).run P w := by
    simp [Instr.index, run_underlying h, asIntOf, h0, h1, hz, go_sem]
  rw [e1]
  exact hp
theorem index_T50 (x0 x1 x2 x3 x4 x5 j : Int) (h0 : 0 ≤ j) (h1 : j < 6) (w : World) : (Instr.index 50 (.agg #[.int .i64 x0, .int .i64 x1, .int .i64 x2, .int .i64 x3, .int .i64 x4, .int .i64 x5]) (.int .i64 j)).run Tryz.prog w = .ok (.int .i64 (rd [x0, x1, x2, x3, x4, x5] j)) w :=
  index_arr 50 3 6 .i64 [x0, x1, x2, x3, x4, x5] j Tryz.underlying50 (by kernel_rfl) (fun w => by simp [Tryz.sizeOf3]) rfl h0 h1 w
theorem index_T106 (x0 x1 x2 x3 x4 x5 x6 x7 x8 x9 x10 x11 x12 j : Int) (h0 : 0 ≤ j) (h1 : j < 13) (w : World) : (Instr.index 106 (.agg #[.int .i64 x0, .int .i64 x1, .int .i64 x2, .int .i64 x3, .int .i64 x4, .int .i64 x5, .int .i64 x6, .int .i64 x7, .int .i64 x8, .int .i64 x9, .int .i64 x10, .int .i64 x11, .int .i64 x12]) (.int .i64 j)).run Tryz.prog w = .ok (.int .i64 (rd [x0, x1, x2, x3, x4, x5, x6, x7, x8, x9, x10, x11, x12] j)) w :=
  index_arr 106 3 13 .i64 [x0, x1, x2, x3, x4, x5, x6, x7, x8, x9, x10, x11, x12] j Tryz.underlying106 (by kernel_rfl) (fun w => by simp [Tryz.sizeOf3]) rfl h0 h1 w
end Go.Proofs.YtemgofomhjabpaaGreatDoor.Core
namespace Go.Proofs.YtemgofomhjabpaaGreatDoor.Core
open Go.RowKit Go.Proofs.YtemgofomhjabpaaGreatDoorW.PrintWords Go.Proofs.YtemgofomhjabpaaGreatDoorW.PrintLast Go.Proofs.YtemgofomhjabpaaGreatDoorW.PrintMore
attribute [local go_sem] max2_int min2_int max_two min_two max_three min_three max_four min_four   -- for this text's walks alone
set_option linter.unusedVariables false
set_option linter.unusedSimpArgs false
def spec_Decimal.f : Nat → Int → Option (ByteArray)
  | 0, _ => none
  | k + 1, a0 => if a0 < 10 then (if 0 ≤ a0 then (if a0 ≤ (wrap64 (a0 + 1)) then (if (wrap64 (a0 + 1)) ≤ 10 then (some ((⟨#[48, 49, 50, 51, 52, 53, 54, 55, 56, 57]⟩ : ByteArray).extract (a0 : Int).toNat ((wrap64 (a0 + 1)) : Int).toNat)) else (none)) else (none)) else (none)) else ((spec_Decimal.f k (wrap64 (Int.tdiv a0 10))).bind fun t153 => ((spec_Decimal.f k (Int.tmod a0 10)).bind fun t154 => (if t153.size + t154.size ≤ 9223372036854775807 then (some (t153 ++ t154)) else (none))))
set_option maxHeartbeats 8000000 in
set_option maxRecDepth 100000 in
theorem spec_Decimal.calls (k : Nat) : ∀ (a0 : Int) (r : ByteArray) (w : World) (h : spec_Decimal.f k a0 = some r),
    Calls Tryz.prog 24 #[.int .i64 a0] w fun e w' => e = .returned (.string r) ∧ Drawn0 w w' := by
  induction k using Nat.strongRecOn with
  | _ k ih =>
  intro a0 r w h
  cases k with
  | zero => exact absurd h (by simp [spec_Decimal.f])
  | succ k =>
  simp only [spec_Decimal.f] at h
  have H : (if a0 < 10 then (if 0 ≤ a0 then (if a0 ≤ (wrap64 (a0 + 1)) then (if (wrap64 (a0 + 1)) ≤ 10 then (some ((⟨#[48, 49, 50, 51, 52, 53, 54, 55, 56, 57]⟩ : ByteArray).extract (a0 : Int).toNat ((wrap64 (a0 + 1)) : Int).toNat)) else (none)) else (none)) else (none)) else ((spec_Decimal.f k (wrap64 (Int.tdiv a0 10))).bind fun t153 => ((spec_Decimal.f k (Int.tmod a0 10)).bind fun t154 => (if t153.size + t154.size ≤ 9223372036854775807 then (some (t153 ++ t154)) else (none))))) = some r := h
  clear h
  by_cases c2 : a0 < 10
  · rw [if_pos c2] at H
    have c2b0 : decide (a0 < 10) = true := decide_eq_true c2
    clear c2
    by_cases c3 : 0 ≤ a0
    · rw [if_pos c3] at H
      have c3b0 := eq_true c3
      have c3b1 : decide (0 ≤ a0) = true := decide_eq_true c3
      clear c3
      by_cases c4 : a0 ≤ (wrap64 (a0 + 1))
      · rw [if_pos c4] at H
        have c4b0 := eq_true c4
        have c4b1 : decide (a0 ≤ (wrap64 (a0 + 1))) = true := decide_eq_true c4
        by_cases c5 : (wrap64 (a0 + 1)) ≤ 10
        · rw [if_pos c5] at H
          have c5b0 := eq_true c5
          have c5b1 : decide ((wrap64 (a0 + 1)) ≤ 10) = true := decide_eq_true c5
          obtain rfl := Option.some.inj H
          go_enter Tryz.func24, Tryz.ntmps24
          go_wp2
          go_ret
          exact ⟨by first | rfl | (simp; done) | (simp [*]; done), by repeat (first | exact Drawn0.refl _ | apply Drawn0.step)⟩
        · rw [if_neg c5] at H
          exact absurd H (by simp)
      · rw [if_neg c4] at H
        exact absurd H (by simp)
    · rw [if_neg c3] at H
      exact absurd H (by simp)
  · rw [if_neg c2] at H
    have c2b0 : decide (a0 < 10) = false := decide_eq_false c2
    clear c2
    replace H := Option.bind_eq_some_iff.mp H
    obtain ⟨t153, A60, H⟩ := H
    replace H : ((spec_Decimal.f k (Int.tmod a0 10)).bind fun t154 => (if t153.size + t154.size ≤ 9223372036854775807 then (some (t153 ++ t154)) else (none))) = some r := H
    have A6 := Aside0.mk A60
    clear A60
    replace H := Option.bind_eq_some_iff.mp H
    obtain ⟨t154, A70, H⟩ := H
    replace H : (if t153.size + t154.size ≤ 9223372036854775807 then (some (t153 ++ t154)) else (none)) = some r := H
    have A7 := Aside0.mk A70
    clear A70
    by_cases c8 : t153.size + t154.size ≤ 9223372036854775807
    · rw [if_pos c8] at H
      have c8b0 := eq_true c8
      have c8b1 : decide (t153.size + t154.size ≤ 9223372036854775807) = true := decide_eq_true c8
      try have c8b2 : (9223372036854775807 < t153.size + t154.size) = False := eq_false (Nat.not_lt.2 c8)
      obtain rfl := Option.some.inj H
      go_enter Tryz.func24, Tryz.ntmps24
      go_wp2_with (first | ((with_reducible refine gate_callee (f := 24) rfl ?_); refine goesL_ (some 11) rfl rfl Tryz.func24 (by kernel_rfl) rfl #[.int .i64 (wrap64 (Int.tdiv a0 10))] rfl (by (try simp only [List.map_toArray, List.map_cons, List.map_nil]); first | done | rfl | (simp only [List.length_drop, List.length_take]; rfl)) ?_; (with_reducible refine (ih k (by omega) (wrap64 (Int.tdiv a0 10)) t153 _ A6.out).mono ?_); rintro e w' ⟨rfl, ⟨nd, rfl⟩⟩; refine ⟨_, rfl, ?_⟩) | ((with_reducible refine gate_callee (f := 24) rfl ?_); refine goesL_ (some 14) rfl rfl Tryz.func24 (by kernel_rfl) rfl #[.int .i64 (Int.tmod a0 10)] rfl (by (try simp only [List.map_toArray, List.map_cons, List.map_nil]); first | done | rfl | (simp only [List.length_drop, List.length_take]; rfl)) ?_; (with_reducible refine (ih k (by omega) (Int.tmod a0 10) t154 _ A7.out).mono ?_); rintro e w' ⟨rfl, ⟨nd, rfl⟩⟩; refine ⟨_, rfl, ?_⟩))
      go_ret
      exact ⟨by first | rfl | (simp; done) | (simp [*]; done), by repeat (first | exact Drawn0.refl _ | apply Drawn0.step)⟩
    · rw [if_neg c8] at H
      exact absurd H (by simp)
end Go.Proofs.YtemgofomhjabpaaGreatDoor.Core
namespace Go.Proofs.YtemgofomhjabpaaGreatDoor.Core
open Go.RowKit Go.Proofs.YtemgofomhjabpaaGreatDoorW.PrintWords Go.Proofs.YtemgofomhjabpaaGreatDoorW.PrintLast Go.Proofs.YtemgofomhjabpaaGreatDoorW.PrintMore
attribute [local go_sem] max2_int min2_int max_two min_two max_three min_three max_four min_four   -- for this text's walks alone
set_option linter.unusedVariables false
set_option linter.unusedSimpArgs false
mutual
def laws_stars.l0 : Nat → Int → ByteArray → ByteArray → Int → Option (ByteArray)
  | 0, _, _, _, _ => none
  | k + 1, x0, x1, x5, x6 => if x6 ≤ 5 then (if x6 < x0 then (laws_stars.j1 k x0 x1 x5 x6 (⟨#[42]⟩ : ByteArray) (decide (x6 ≤ 2))) else (laws_stars.j1 k x0 x1 x5 x6 (⟨#[42]⟩ : ByteArray) false)) else (some x5)
def laws_stars.j1 : Nat → Int → ByteArray → ByteArray → Int → ByteArray → Bool → Option (ByteArray)
  | 0, _, _, _, _, _, _ => none
  | k + 1, x0, x1, x5, x6, x7, x18 => if x18 = true then (laws_stars.j2 k x0 x1 x5 x6 (⟨#[48]⟩ : ByteArray)) else (laws_stars.j2 k x0 x1 x5 x6 x7)
def laws_stars.j2 : Nat → Int → ByteArray → ByteArray → Int → ByteArray → Option (ByteArray)
  | 0, _, _, _, _, _ => none
  | k + 1, x0, x1, x5, x6, x7 => if x6 = x0 then (if x6 > 1 then (if x5.size + 1 ≤ 9223372036854775807 then (if (x5 ++ (⟨#[32]⟩ : ByteArray)).size + x1.size ≤ 9223372036854775807 then (laws_stars.l0 k x0 x1 ((x5 ++ (⟨#[32]⟩ : ByteArray)) ++ x1) (wrap64 (x6 + 1))) else (none)) else (none)) else (if x5.size + x1.size ≤ 9223372036854775807 then (laws_stars.l0 k x0 x1 (x5 ++ x1) (wrap64 (x6 + 1))) else (none))) else (if x6 > 1 then (if x5.size + 1 ≤ 9223372036854775807 then (if (x5 ++ (⟨#[32]⟩ : ByteArray)).size + x7.size ≤ 9223372036854775807 then (laws_stars.l0 k x0 x1 ((x5 ++ (⟨#[32]⟩ : ByteArray)) ++ x7) (wrap64 (x6 + 1))) else (none)) else (none)) else (if x5.size + x7.size ≤ 9223372036854775807 then (laws_stars.l0 k x0 x1 (x5 ++ x7) (wrap64 (x6 + 1))) else (none)))
end
def laws_stars.f (k : Nat) (a0 : Int) (a1 : ByteArray) : Option (ByteArray) := laws_stars.l0 k a0 a1 (⟨#[]⟩ : ByteArray) 1
set_option maxHeartbeats 8000000 in
set_option maxRecDepth 100000 in
theorem laws_stars.calls (k : Nat) (a0 : Int) (a1 : ByteArray) (r : ByteArray) (w : World) (h : laws_stars.f k a0 a1 = some r) :
    Calls Tryz.prog 23 #[.int .i64 a0, .string a1] w fun e w' => e = .returned (.string r) ∧ Drawn0 w w' := by
  have H : (laws_stars.l0 k a0 a1 (⟨#[]⟩ : ByteArray) 1) = some r := h
  clear h
  have H' := Aside0.mk H
  clear H
  go_enter Tryz.func23, Tryz.ntmps23
  go_wp2
  go_loopg [5, 6] k (fun kq v5 v6 w' => ∃ (x5_1 : ByteArray) (x6_1 : Int), v5 = .string x5_1 ∧ v6 = .int .i64 x6_1 ∧ Aside0 (laws_stars.l0 kq a0 a1 x5_1 x6_1 = some r) ∧ Aside0 (kq ≤ k) ∧ Drawn0 w w')
  case atStart => exact ⟨((⟨#[]⟩ : ByteArray)), (1), (by first | rfl | (simp; done) | (simp [*]; done)), (by first | rfl | (simp; done) | (simp [*]; done)), H', ⟨Nat.le_refl _⟩, by repeat (first | exact Drawn0.refl _ | apply Drawn0.step)⟩
  case round =>
    clear H'
    try clear c2
    try clear p2
    obtain ⟨x5_1, x6_1, rfl, rfl, HA, HK1, ⟨m1, rfl⟩⟩ := hrel
    cases gk with
    | zero => exact absurd HA.out (by simp [laws_stars.l0])
    | succ k1 =>
      have H := HA.out
      clear HA
      simp only [laws_stars.l0] at H
      by_cases c3 : x6_1 ≤ 5
      · rw [if_pos c3] at H
        have c3b0 : decide (x6_1 ≤ 5) = true := decide_eq_true c3
        clear c3
        have HC4 := Aside0.mk H
        clear H
        go_upto_region 6 with (fail)
        go_cut [18] (fun v18 wc => ∃ (kq : Nat) (x18_3 : Bool), v18 = .bool x18_3 ∧ Aside0 (laws_stars.j1 kq a0 a1 x5_1 x6_1 (⟨#[42]⟩ : ByteArray) x18_3 = some r) ∧ Aside0 (kq ≤ k1) ∧ Drawn0 w wc)
        case first =>
          have H := HC4.out
          clear HC4
          by_cases c5 : x6_1 < a0
          · rw [if_pos c5] at H
            have c5b0 : decide (x6_1 < a0) = true := decide_eq_true c5
            clear c5
            (first | rw [c5b0] | (simp only [i64_w, i32_w]; rw [c5b0]) | skip)
            have H' := Aside0.mk H
            clear H
            go_wp2
            go_meet
            case rel => exact ⟨_, (decide (x6_1 ≤ 2)), (by first | rfl | (simp; done) | (simp [*]; done)), H', ⟨by have := HK1.out; first | omega | exact Nat.le_refl _⟩, by repeat (first | exact Drawn0.refl _ | apply Drawn0.step)⟩
          · rw [if_neg c5] at H
            have c5b0 : decide (x6_1 < a0) = false := decide_eq_false c5
            clear c5
            (first | rw [c5b0] | (simp only [i64_w, i32_w]; rw [c5b0]) | skip)
            have H' := Aside0.mk H
            clear H
            go_wp2
            go_meet
            case rel => exact ⟨_, (false), (by first | rfl | (simp; done) | (simp [*]; done)), H', ⟨by have := HK1.out; first | omega | exact Nat.le_refl _⟩, by repeat (first | exact Drawn0.refl _ | apply Drawn0.step)⟩
        case rest =>
          clear HC4
          try clear c2
          try clear p2
          try clear c3
          try clear c3b0
          try clear c5
          try clear c5b0
          try clear p2
          obtain ⟨kq, x18_3, rfl, HA, HJ3, ⟨mc3, rfl⟩⟩ := hcut
          cases kq with
          | zero => exact absurd HA.out (by simp [laws_stars.j1])
          | succ kj3 =>
            have H := HA.out
            clear HA
            simp only [laws_stars.j1] at H
            have HC6 := Aside0.mk H
            clear H
            go_upto_if 18 with (fail)
            go_cut [7] (fun v7 wc => ∃ (kq : Nat) (x7_5 : ByteArray), v7 = .string x7_5 ∧ Aside0 (laws_stars.j2 kq a0 a1 x5_1 x6_1 x7_5 = some r) ∧ Aside0 (kq ≤ kj3) ∧ Drawn0 w wc)
            case first =>
              have H := HC6.out
              clear HC6
              by_cases c7 : x18_3 = true
              · subst c7
                have H1 : (laws_stars.j2 kj3 a0 a1 x5_1 x6_1 (⟨#[48]⟩ : ByteArray)) = some r := by rw [if_pos rfl] at H; exact H
                clear H
                have H := H1
                clear H1
                have H' := Aside0.mk H
                clear H
                go_wp2
                go_meet
                case rel => exact ⟨_, ((⟨#[48]⟩ : ByteArray)), (by first | rfl | (simp; done) | (simp [*]; done)), H', ⟨by have := HK1.out; have := HJ3.out; first | omega | exact Nat.le_refl _⟩, by repeat (first | exact Drawn0.refl _ | apply Drawn0.step)⟩
              · replace c7 := Bool.eq_false_iff.mpr c7
                subst c7
                have H1 : (laws_stars.j2 kj3 a0 a1 x5_1 x6_1 (⟨#[42]⟩ : ByteArray)) = some r := by rw [if_neg (show ¬ (false = true) by decide)] at H; exact H
                clear H
                have H := H1
                clear H1
                have H' := Aside0.mk H
                clear H
                go_wp2
                go_meet
                case rel => exact ⟨_, ((⟨#[42]⟩ : ByteArray)), (by first | rfl | (simp; done) | (simp [*]; done)), H', ⟨by have := HK1.out; have := HJ3.out; first | omega | exact Nat.le_refl _⟩, by repeat (first | exact Drawn0.refl _ | apply Drawn0.step)⟩
            case rest =>
              clear HC6
              try clear c2
              try clear p2
              try clear c3
              try clear c3b0
              try clear c5
              try clear c5b0
              try clear c7
              try clear p2
              obtain ⟨kq, x7_5, rfl, HA, HJ5, ⟨mc5, rfl⟩⟩ := hcut
              cases kq with
              | zero => exact absurd HA.out (by simp [laws_stars.j2])
              | succ kj5 =>
                have H := HA.out
                clear HA
                simp only [laws_stars.j2] at H
                by_cases c8 : x6_1 = a0
                · rw [if_pos c8] at H
                  have c8b0 : (x6_1 == a0) = true := beq_iff_eq.mpr c8
                  have c8b1 : (x6_1 != a0) = false := bne_eq_false_iff_eq.mpr c8
                  clear c8
                  by_cases c9 : x6_1 > 1
                  · rw [if_pos c9] at H
                    have c9b0 : decide (1 < x6_1) = true := decide_eq_true c9
                    clear c9
                    by_cases c10 : x5_1.size + 1 ≤ 9223372036854775807
                    · rw [if_pos c10] at H
                      have c10b0 := eq_true c10
                      have c10b1 : decide (x5_1.size + 1 ≤ 9223372036854775807) = true := decide_eq_true c10
                      try have c10b2 : (9223372036854775807 < x5_1.size + 1) = False := eq_false (Nat.not_lt.2 c10)
                      by_cases c11 : (x5_1 ++ (⟨#[32]⟩ : ByteArray)).size + a1.size ≤ 9223372036854775807
                      · rw [if_pos c11] at H
                        have c11b0 := eq_true c11
                        have c11b1 : decide ((x5_1 ++ (⟨#[32]⟩ : ByteArray)).size + a1.size ≤ 9223372036854775807) = true := decide_eq_true c11
                        try have c11b2 : (9223372036854775807 < (x5_1 ++ (⟨#[32]⟩ : ByteArray)).size + a1.size) = False := eq_false (Nat.not_lt.2 c11)
                        (try have c11b3 : (9223372036854775807 < (x5_1.size + 1) + a1.size) = False := eq_false (Nat.not_lt.2 (by have h_ := c11; (try simp only [ByteArray.size_append] at h_); exact h_)))
                        have H' := Aside0.mk H
                        clear H
                        go_wp2
                        go_roundg kj5
                        case measure => have := HK1.out; have := HJ3.out; have := HJ5.out; omega
                        case rel => exact ⟨((x5_1 ++ (⟨#[32]⟩ : ByteArray)) ++ a1), (wrap64 (x6_1 + 1)), (by first | rfl | (simp; done) | (simp [*]; done)), (by first | rfl | (simp; done) | (simp [*]; done)), H', ⟨by have := HK1.out; have := HJ3.out; have := HJ5.out; omega⟩, by repeat (first | exact Drawn0.refl _ | apply Drawn0.step)⟩
                      · rw [if_neg c11] at H
                        exact absurd H (by simp)
                    · rw [if_neg c10] at H
                      exact absurd H (by simp)
                  · rw [if_neg c9] at H
                    have c9b0 : decide (1 < x6_1) = false := decide_eq_false c9
                    clear c9
                    by_cases c12 : x5_1.size + a1.size ≤ 9223372036854775807
                    · rw [if_pos c12] at H
                      have c12b0 := eq_true c12
                      have c12b1 : decide (x5_1.size + a1.size ≤ 9223372036854775807) = true := decide_eq_true c12
                      try have c12b2 : (9223372036854775807 < x5_1.size + a1.size) = False := eq_false (Nat.not_lt.2 c12)
                      have H' := Aside0.mk H
                      clear H
                      go_wp2
                      go_roundg kj5
                      case measure => have := HK1.out; have := HJ3.out; have := HJ5.out; omega
                      case rel => exact ⟨(x5_1 ++ a1), (wrap64 (x6_1 + 1)), (by first | rfl | (simp; done) | (simp [*]; done)), (by first | rfl | (simp; done) | (simp [*]; done)), H', ⟨by have := HK1.out; have := HJ3.out; have := HJ5.out; omega⟩, by repeat (first | exact Drawn0.refl _ | apply Drawn0.step)⟩
                    · rw [if_neg c12] at H
                      exact absurd H (by simp)
                · rw [if_neg c8] at H
                  have c8b0 : (x6_1 == a0) = false := beq_eq_false_iff_ne.mpr c8
                  have c8b1 : (x6_1 != a0) = true := bne_iff_ne.mpr c8
                  by_cases c13 : x6_1 > 1
                  · rw [if_pos c13] at H
                    have c13b0 : decide (1 < x6_1) = true := decide_eq_true c13
                    clear c13
                    by_cases c14 : x5_1.size + 1 ≤ 9223372036854775807
                    · rw [if_pos c14] at H
                      have c14b0 := eq_true c14
                      have c14b1 : decide (x5_1.size + 1 ≤ 9223372036854775807) = true := decide_eq_true c14
                      try have c14b2 : (9223372036854775807 < x5_1.size + 1) = False := eq_false (Nat.not_lt.2 c14)
                      by_cases c15 : (x5_1 ++ (⟨#[32]⟩ : ByteArray)).size + x7_5.size ≤ 9223372036854775807
                      · rw [if_pos c15] at H
                        have c15b0 := eq_true c15
                        have c15b1 : decide ((x5_1 ++ (⟨#[32]⟩ : ByteArray)).size + x7_5.size ≤ 9223372036854775807) = true := decide_eq_true c15
                        try have c15b2 : (9223372036854775807 < (x5_1 ++ (⟨#[32]⟩ : ByteArray)).size + x7_5.size) = False := eq_false (Nat.not_lt.2 c15)
                        (try have c15b3 : (9223372036854775807 < (x5_1.size + 1) + x7_5.size) = False := eq_false (Nat.not_lt.2 (by have h_ := c15; (try simp only [ByteArray.size_append] at h_); exact h_)))
                        have H' := Aside0.mk H
                        clear H
                        go_wp2
                        go_roundg kj5
                        case measure => have := HK1.out; have := HJ3.out; have := HJ5.out; omega
                        case rel => exact ⟨((x5_1 ++ (⟨#[32]⟩ : ByteArray)) ++ x7_5), (wrap64 (x6_1 + 1)), (by first | rfl | (simp; done) | (simp [*]; done)), (by first | rfl | (simp; done) | (simp [*]; done)), H', ⟨by have := HK1.out; have := HJ3.out; have := HJ5.out; omega⟩, by repeat (first | exact Drawn0.refl _ | apply Drawn0.step)⟩
                      · rw [if_neg c15] at H
                        exact absurd H (by simp)
                    · rw [if_neg c14] at H
                      exact absurd H (by simp)
                  · rw [if_neg c13] at H
                    have c13b0 : decide (1 < x6_1) = false := decide_eq_false c13
                    clear c13
                    by_cases c16 : x5_1.size + x7_5.size ≤ 9223372036854775807
                    · rw [if_pos c16] at H
                      have c16b0 := eq_true c16
                      have c16b1 : decide (x5_1.size + x7_5.size ≤ 9223372036854775807) = true := decide_eq_true c16
                      try have c16b2 : (9223372036854775807 < x5_1.size + x7_5.size) = False := eq_false (Nat.not_lt.2 c16)
                      have H' := Aside0.mk H
                      clear H
                      go_wp2
                      go_roundg kj5
                      case measure => have := HK1.out; have := HJ3.out; have := HJ5.out; omega
                      case rel => exact ⟨(x5_1 ++ x7_5), (wrap64 (x6_1 + 1)), (by first | rfl | (simp; done) | (simp [*]; done)), (by first | rfl | (simp; done) | (simp [*]; done)), H', ⟨by have := HK1.out; have := HJ3.out; have := HJ5.out; omega⟩, by repeat (first | exact Drawn0.refl _ | apply Drawn0.step)⟩
                    · rw [if_neg c16] at H
                      exact absurd H (by simp)
      · rw [if_neg c3] at H
        have c3b0 : decide (x6_1 ≤ 5) = false := decide_eq_false c3
        clear c3
        obtain rfl := Option.some.inj H
        go_wp2
        go_ret
        exact ⟨by first | rfl | (simp; done) | (simp [*]; done), by repeat (first | exact Drawn0.refl _ | apply Drawn0.step)⟩
end Go.Proofs.YtemgofomhjabpaaGreatDoor.Core
namespace Go.Proofs.YtemgofomhjabpaaGreatDoor.Core
open Go.RowKit Go.Proofs.YtemgofomhjabpaaGreatDoorW.PrintWords Go.Proofs.YtemgofomhjabpaaGreatDoorW.PrintLast Go.Proofs.YtemgofomhjabpaaGreatDoorW.PrintMore
attribute [local go_sem] max2_int min2_int max_two min_two max_three min_three max_four min_four   -- for this text's walks alone
set_option linter.unusedVariables false
set_option linter.unusedSimpArgs false
def spec_Leap.f (a0 : Int) : Option (Bool) := if (Int.tmod a0 4) = 0 then (if (Int.tmod a0 100) = 0 then (some ((Int.tmod a0 400) == 0)) else (some true)) else (some false)
set_option maxHeartbeats 8000000 in
set_option maxRecDepth 100000 in
theorem spec_Leap.calls (a0 : Int) (r : Bool) (w : World) (h : spec_Leap.f a0 = some r) :
    Calls Tryz.prog 45 #[.int .i64 a0] w fun e w' => e = .returned (.bool r) ∧ Drawn0 w w' := by
  have H : (if (Int.tmod a0 4) = 0 then (if (Int.tmod a0 100) = 0 then (some ((Int.tmod a0 400) == 0)) else (some true)) else (some false)) = some r := h
  clear h
  by_cases c2 : (Int.tmod a0 4) = 0
  · rw [if_pos c2] at H
    have c2b0 : ((Int.tmod a0 4) == 0) = true := beq_iff_eq.mpr c2
    have c2b1 : ((Int.tmod a0 4) != 0) = false := bne_eq_false_iff_eq.mpr c2
    clear c2
    by_cases c3 : (Int.tmod a0 100) = 0
    · rw [if_pos c3] at H
      have c3b0 : ((Int.tmod a0 100) == 0) = true := beq_iff_eq.mpr c3
      have c3b1 : ((Int.tmod a0 100) != 0) = false := bne_eq_false_iff_eq.mpr c3
      clear c3
      obtain rfl := Option.some.inj H
      go_enter Tryz.func45, Tryz.ntmps45
      go_wp2
      go_ret
      exact ⟨by first | rfl | (simp; done) | (simp [*]; done), by repeat (first | exact Drawn0.refl _ | apply Drawn0.step)⟩
    · rw [if_neg c3] at H
      have c3b0 : ((Int.tmod a0 100) == 0) = false := beq_eq_false_iff_ne.mpr c3
      have c3b1 : ((Int.tmod a0 100) != 0) = true := bne_iff_ne.mpr c3
      obtain rfl := Option.some.inj H
      go_enter Tryz.func45, Tryz.ntmps45
      go_wp2
      go_ret
      exact ⟨by first | rfl | (simp; done) | (simp [*]; done), by repeat (first | exact Drawn0.refl _ | apply Drawn0.step)⟩
  · rw [if_neg c2] at H
    have c2b0 : ((Int.tmod a0 4) == 0) = false := beq_eq_false_iff_ne.mpr c2
    have c2b1 : ((Int.tmod a0 4) != 0) = true := bne_iff_ne.mpr c2
    obtain rfl := Option.some.inj H
    go_enter Tryz.func45, Tryz.ntmps45
    go_wp2
    go_ret
    exact ⟨by first | rfl | (simp; done) | (simp [*]; done), by repeat (first | exact Drawn0.refl _ | apply Drawn0.step)⟩
end Go.Proofs.YtemgofomhjabpaaGreatDoor.Core
namespace Go.Proofs.YtemgofomhjabpaaGreatDoor.Core
open Go.RowKit Go.Proofs.YtemgofomhjabpaaGreatDoorW.PrintWords Go.Proofs.YtemgofomhjabpaaGreatDoorW.PrintLast Go.Proofs.YtemgofomhjabpaaGreatDoorW.PrintMore
attribute [local go_sem] max2_int min2_int max_two min_two max_three min_three max_four min_four   -- for this text's walks alone
set_option linter.unusedVariables false
set_option linter.unusedSimpArgs false
def spec_Days.f (a0 : Int) (a1 : Int) : Option (Int) := if a1 = 2 then ((spec_Leap.f a0).bind fun t169 => (if t169 = true then (some 29) else (if 0 ≤ a1 then (if a1 < 13 then (some (rd [0, 31, 28, 31, 30, 31, 30, 31, 31, 30, 31, 30, 31] a1)) else (none)) else (none)))) else (if 0 ≤ a1 then (if a1 < 13 then (some (rd [0, 31, 28, 31, 30, 31, 30, 31, 31, 30, 31, 30, 31] a1)) else (none)) else (none))
set_option maxHeartbeats 8000000 in
set_option maxRecDepth 100000 in
theorem spec_Days.calls (a0 : Int) (a1 : Int) (r : Int) (w : World) (h : spec_Days.f a0 a1 = some r) :
    Calls Tryz.prog 37 #[.int .i64 a0, .int .i64 a1] w fun e w' => e = .returned (.int .i64 r) ∧ Drawn0 w w' := by
  have hu106 := Tryz.underlying106
  have H : (if a1 = 2 then ((spec_Leap.f a0).bind fun t169 => (if t169 = true then (some 29) else (if 0 ≤ a1 then (if a1 < 13 then (some (rd [0, 31, 28, 31, 30, 31, 30, 31, 31, 30, 31, 30, 31] a1)) else (none)) else (none)))) else (if 0 ≤ a1 then (if a1 < 13 then (some (rd [0, 31, 28, 31, 30, 31, 30, 31, 31, 30, 31, 30, 31] a1)) else (none)) else (none))) = some r := h
  clear h
  by_cases c3 : a1 = 2
  · rw [if_pos c3] at H
    have c3b0 : (a1 == 2) = true := beq_iff_eq.mpr c3
    have c3b1 : (a1 != 2) = false := bne_eq_false_iff_eq.mpr c3
    clear c3
    replace H := Option.bind_eq_some_iff.mp H
    obtain ⟨t169, A40, H⟩ := H
    replace H : (if t169 = true then (some 29) else (if 0 ≤ a1 then (if a1 < 13 then (some (rd [0, 31, 28, 31, 30, 31, 30, 31, 31, 30, 31, 30, 31] a1)) else (none)) else (none))) = some r := H
    have A4 := Aside0.mk A40
    clear A40
    by_cases c5 : t169 = true
    · subst c5
      have H1 : (some 29) = some r := by rw [if_pos rfl] at H; exact H
      clear H
      have H := H1
      clear H1
      obtain rfl := Option.some.inj H
      go_enter Tryz.func37, Tryz.ntmps37
      go_wp2_with (first | (go_at_call 45; (with_reducible refine (spec_Leap.calls a0 true _ A4.out).mono ?_); rintro e w' ⟨rfl, ⟨nd, rfl⟩⟩))
      go_ret
      exact ⟨by first | rfl | (simp; done) | (simp [*]; done), by repeat (first | exact Drawn0.refl _ | apply Drawn0.step)⟩
    · replace c5 := Bool.eq_false_iff.mpr c5
      subst c5
      have H1 : (if 0 ≤ a1 then (if a1 < 13 then (some (rd [0, 31, 28, 31, 30, 31, 30, 31, 31, 30, 31, 30, 31] a1)) else (none)) else (none)) = some r := by rw [if_neg (show ¬ (false = true) by decide)] at H; exact H
      clear H
      have H := H1
      clear H1
      by_cases c6 : 0 ≤ a1
      · rw [if_pos c6] at H
        have c6b0 : decide (0 ≤ a1) = true := decide_eq_true c6
        clear c6
        by_cases c7 : a1 < 13
        · rw [if_pos c7] at H
          have c7b0 : decide (a1 < 13) = true := decide_eq_true c7
          clear c7
          have hixz170_ := fun w_ : World => (index_T106 0 31 28 31 30 31 30 31 31 30 31 30 31 a1 (of_decide_eq_true (by first | (with_reducible assumption) | assumption)) (of_decide_eq_true (by first | (with_reducible assumption) | assumption)) w_ : (Instr.index 106 (.agg #[.int .i64 0, .int .i64 31, .int .i64 28, .int .i64 31, .int .i64 30, .int .i64 31, .int .i64 30, .int .i64 31, .int .i64 31, .int .i64 30, .int .i64 31, .int .i64 30, .int .i64 31]) (.int .i64 a1)).run Tryz.prog w_ = .ok (.int .i64 (rd [0, 31, 28, 31, 30, 31, 30, 31, 31, 30, 31, 30, 31] a1)) w_)
          obtain rfl := Option.some.inj H
          go_enter Tryz.func37, Tryz.ntmps37
          go_wp2_with (first | (go_at_call 45; (with_reducible refine (spec_Leap.calls a0 false _ A4.out).mono ?_); rintro e w' ⟨rfl, ⟨nd, rfl⟩⟩))
          go_ret
          exact ⟨by first | rfl | (simp; done) | (simp [*]; done), by repeat (first | exact Drawn0.refl _ | apply Drawn0.step)⟩
        · rw [if_neg c7] at H
          exact absurd H (by simp)
      · rw [if_neg c6] at H
        exact absurd H (by simp)
  · rw [if_neg c3] at H
    have c3b0 : (a1 == 2) = false := beq_eq_false_iff_ne.mpr c3
    have c3b1 : (a1 != 2) = true := bne_iff_ne.mpr c3
    by_cases c8 : 0 ≤ a1
    · rw [if_pos c8] at H
      have c8b0 : decide (0 ≤ a1) = true := decide_eq_true c8
      clear c8
      by_cases c9 : a1 < 13
      · rw [if_pos c9] at H
        have c9b0 : decide (a1 < 13) = true := decide_eq_true c9
        clear c9
        have hixz171_ := fun w_ : World => (index_T106 0 31 28 31 30 31 30 31 31 30 31 30 31 a1 (of_decide_eq_true (by first | (with_reducible assumption) | assumption)) (of_decide_eq_true (by first | (with_reducible assumption) | assumption)) w_ : (Instr.index 106 (.agg #[.int .i64 0, .int .i64 31, .int .i64 28, .int .i64 31, .int .i64 30, .int .i64 31, .int .i64 30, .int .i64 31, .int .i64 31, .int .i64 30, .int .i64 31, .int .i64 30, .int .i64 31]) (.int .i64 a1)).run Tryz.prog w_ = .ok (.int .i64 (rd [0, 31, 28, 31, 30, 31, 30, 31, 31, 30, 31, 30, 31] a1)) w_)
        obtain rfl := Option.some.inj H
        go_enter Tryz.func37, Tryz.ntmps37
        go_wp2
        go_ret
        exact ⟨by first | rfl | (simp; done) | (simp [*]; done), by repeat (first | exact Drawn0.refl _ | apply Drawn0.step)⟩
      · rw [if_neg c9] at H
        exact absurd H (by simp)
    · rw [if_neg c8] at H
      exact absurd H (by simp)
end Go.Proofs.YtemgofomhjabpaaGreatDoor.Core
namespace Go.Proofs.YtemgofomhjabpaaGreatDoor.Core
open Go.RowKit Go.Proofs.YtemgofomhjabpaaGreatDoorW.PrintWords Go.Proofs.YtemgofomhjabpaaGreatDoorW.PrintLast Go.Proofs.YtemgofomhjabpaaGreatDoorW.PrintMore
attribute [local go_sem] max2_int min2_int max_two min_two max_three min_three max_four min_four   -- for this text's walks alone
set_option linter.unusedVariables false
set_option linter.unusedSimpArgs false
def spec_Weekday.l0 : Nat → Int → Int → Int → Int → Option (Int)
  | 0, _, _, _, _ => none
  | k + 1, x0, x1, x8, x9 => if x9 < x1 then ((spec_Days.f x0 x9).bind fun t172 => (spec_Weekday.l0 k x0 x1 (wrap64 (x8 + t172)) (wrap64 (x9 + 1)))) else (some (Int.tmod x8 7))
def spec_Weekday.f (k : Nat) (a0 : Int) (a1 : Int) (a2 : Int) : Option (Int) := spec_Weekday.l0 k a0 a1 (wrap64 ((wrap64 ((wrap64 ((wrap64 ((wrap64 ((wrap64 (a0 - 1)) * 365)) + (wrap64 (Int.tdiv (wrap64 (a0 - 1)) 4)))) - (wrap64 (Int.tdiv (wrap64 (a0 - 1)) 100)))) + (wrap64 (Int.tdiv (wrap64 (a0 - 1)) 400)))) + a2)) 1
set_option maxHeartbeats 8000000 in
set_option maxRecDepth 100000 in
theorem spec_Weekday.calls (k : Nat) (a0 : Int) (a1 : Int) (a2 : Int) (r : Int) (w : World) (h : spec_Weekday.f k a0 a1 a2 = some r) :
    Calls Tryz.prog 38 #[.int .i64 a0, .int .i64 a1, .int .i64 a2] w fun e w' => e = .returned (.int .i64 r) ∧ Drawn0 w w' := by
  have H : (spec_Weekday.l0 k a0 a1 (wrap64 ((wrap64 ((wrap64 ((wrap64 ((wrap64 ((wrap64 (a0 - 1)) * 365)) + (wrap64 (Int.tdiv (wrap64 (a0 - 1)) 4)))) - (wrap64 (Int.tdiv (wrap64 (a0 - 1)) 100)))) + (wrap64 (Int.tdiv (wrap64 (a0 - 1)) 400)))) + a2)) 1) = some r := h
  clear h
  have H' := Aside0.mk H
  clear H
  go_enter Tryz.func38, Tryz.ntmps38
  go_wp2
  go_loopg [8, 9] k (fun kq v8 v9 w' => ∃ (x8_1 : Int) (x9_1 : Int), v8 = .int .i64 x8_1 ∧ v9 = .int .i64 x9_1 ∧ Aside0 (spec_Weekday.l0 kq a0 a1 x8_1 x9_1 = some r) ∧ Aside0 (kq ≤ k) ∧ Drawn0 w w')
  case atStart => exact ⟨(wrap64 ((wrap64 ((wrap64 ((wrap64 ((wrap64 ((wrap64 (a0 - 1)) * 365)) + (wrap64 (Int.tdiv (wrap64 (a0 - 1)) 4)))) - (wrap64 (Int.tdiv (wrap64 (a0 - 1)) 100)))) + (wrap64 (Int.tdiv (wrap64 (a0 - 1)) 400)))) + a2)), (1), (by first | rfl | (simp; done) | (simp [*]; done)), (by first | rfl | (simp; done) | (simp [*]; done)), H', ⟨Nat.le_refl _⟩, by repeat (first | exact Drawn0.refl _ | apply Drawn0.step)⟩
  case round =>
    clear H'
    try clear p2
    try clear c3
    obtain ⟨x8_1, x9_1, rfl, rfl, HA, HK1, ⟨m1, rfl⟩⟩ := hrel
    cases gk with
    | zero => exact absurd HA.out (by simp [spec_Weekday.l0])
    | succ k1 =>
      have H := HA.out
      clear HA
      simp only [spec_Weekday.l0] at H
      by_cases c4 : x9_1 < a1
      · rw [if_pos c4] at H
        have c4b0 : decide (x9_1 < a1) = true := decide_eq_true c4
        clear c4
        replace H := Option.bind_eq_some_iff.mp H
        obtain ⟨t172, A50, H⟩ := H
        replace H : (spec_Weekday.l0 k1 a0 a1 (wrap64 (x8_1 + t172)) (wrap64 (x9_1 + 1))) = some r := H
        have A5 := Aside0.mk A50
        clear A50
        have H' := Aside0.mk H
        clear H
        go_wp2_with (first | ((with_reducible refine gate_callee (f := 37) rfl ?_); refine goesL_ (some 33) rfl rfl Tryz.func37 (by kernel_rfl) rfl #[.int .i64 a0, .int .i64 x9_1] rfl (by (try simp only [List.map_toArray, List.map_cons, List.map_nil]); first | done | rfl | (simp only [List.length_drop, List.length_take]; rfl)) ?_; (with_reducible refine (spec_Days.calls a0 x9_1 t172 _ A5.out).mono ?_); rintro e w' ⟨rfl, ⟨nd, rfl⟩⟩; refine ⟨_, rfl, ?_⟩))
        go_roundg k1
        case measure => have := HK1.out; omega
        case rel => exact ⟨(wrap64 (x8_1 + t172)), (wrap64 (x9_1 + 1)), (by first | rfl | (simp; done) | (simp [*]; done)), (by first | rfl | (simp; done) | (simp [*]; done)), H', ⟨by have := HK1.out; omega⟩, by repeat (first | exact Drawn0.refl _ | apply Drawn0.step)⟩
      · rw [if_neg c4] at H
        have c4b0 : decide (x9_1 < a1) = false := decide_eq_false c4
        clear c4
        obtain rfl := Option.some.inj H
        go_wp2
        go_ret
        exact ⟨by first | rfl | (simp; done) | (simp [*]; done), by repeat (first | exact Drawn0.refl _ | apply Drawn0.step)⟩
end Go.Proofs.YtemgofomhjabpaaGreatDoor.Core
namespace Go.Proofs.YtemgofomhjabpaaGreatDoor.Core
open Go.RowKit Go.Proofs.YtemgofomhjabpaaGreatDoorW.PrintWords Go.Proofs.YtemgofomhjabpaaGreatDoorW.PrintLast Go.Proofs.YtemgofomhjabpaaGreatDoorW.PrintMore
attribute [local go_sem] max2_int min2_int max_two min_two max_three min_three max_four min_four   -- for this text's walks alone
set_option linter.unusedVariables false
set_option linter.unusedSimpArgs false
def laws_numbers.f (k : Nat) (a0_0 : Int) (a0_1 : Int) (a0_2 : Int) (a0_3 : Int) (a0_4 : Int) (a0_5 : Int) : Option (Int × Int × Int × Int × Int × Int) := (spec_Weekday.f k a0_0 a0_1 a0_2).bind fun t219 => (some (a0_5, a0_4, a0_3, a0_2, a0_1, t219))
def laws_numbers.T1 : Bool × List (List Nat × List Nat) := (true, [([], []), ([0], [0]), ([], []), ([2], [2]), ([], []), ([4], [4]), ([], []), ([6], [6]), ([], []), ([8], [8]), ([], []), ([10], [10]), ([], []), ([12], [12]), ([], []), ([14], [14]), ([11, 13, 15], [11, 13, 15]), ([1, 3, 5, 7, 9, 16], [1, 3, 5, 7, 9, 16]), ([17, 16, 0, 1, 2, 3, 4, 5, 6, 7, 8, 9, 10, 11, 12, 13, 14, 15, 16, 17], [17])])
def laws_numbers.B1 : List Nat := [0, 1, 0, 4, 0, 16, 0, 64, 0, 256, 0, 1024, 0, 4096, 0, 16384, 64512, 131071, 262143]
theorem laws_numbers.tab1 : rtab .any (opsOf Tryz.f25 1) = laws_numbers.T1 := by kernel_rfl
theorem laws_numbers.bits1 : waitsOk laws_numbers.T1.2 laws_numbers.B1 = true := by kernel_rfl
set_option maxHeartbeats 8000000 in
set_option maxRecDepth 100000 in
theorem laws_numbers.calls (k : Nat) (a0_0 : Int) (a0_1 : Int) (a0_2 : Int) (a0_3 : Int) (a0_4 : Int) (a0_5 : Int) (r1 : Int) (r2 : Int) (r3 : Int) (r4 : Int) (r5 : Int) (r6 : Int) (w : World) (h : laws_numbers.f k a0_0 a0_1 a0_2 a0_3 a0_4 a0_5 = some (r1, r2, r3, r4, r5, r6)) :
    Calls Tryz.prog 25 #[.agg #[.int .i64 a0_0, .int .i64 a0_1, .int .i64 a0_2, .int .i64 a0_3, .int .i64 a0_4, .int .i64 a0_5]] w fun e w' => e = .returned (.agg #[.int .i64 r1, .int .i64 r2, .int .i64 r3, .int .i64 r4, .int .i64 r5, .int .i64 r6]) ∧ Below w.heap.size w w' := by
  have hu43 := Tryz.underlying43
  have hu50 := Tryz.underlying50
  have HB := Aside0.mk (Below.refl w.heap.size w)
  have H : ((spec_Weekday.f k a0_0 a0_1 a0_2).bind fun t219 => (some (a0_5, a0_4, a0_3, a0_2, a0_1, t219))) = some (r1, r2, r3, r4, r5, r6) := h
  clear h
  replace H := Option.bind_eq_some_iff.mp H
  obtain ⟨t219, A20, H⟩ := H
  replace H : (some (a0_5, a0_4, a0_3, a0_2, a0_1, t219)) = some (r1, r2, r3, r4, r5, r6) := H
  have A2 := Aside0.mk A20
  clear A20
  simp only [Option.some.injEq, Prod.mk.injEq] at H
  obtain ⟨rfl, rfl, rfl, rfl, rfl, rfl⟩ := H
  go_enter Tryz.func25, Tryz.ntmps25
  try go_wp2_with (first | ((with_reducible refine gate_dst (N := 1) rfl ?_); refine box_event ?hg (N := 1) ?hd (cs := #[.int .i64 a0_0, .int .i64 a0_1, .int .i64 a0_2, .int .i64 a0_3, .int .i64 a0_4, .int .i64 a0_5]) (t := 43) ?hr ?_; (case hd => rfl); (case hg => rfl); (case hr => first | (go_simp; done) | (go_simp; rfl)); intro gb217 hg w3 hbox hb; have n0_ := Aside0.mk (below_step (by repeat (first | (with_reducible first | exact HB.out | apply below_alloc | apply pw_below_drewN | apply below_drew1) | exact HB.out)) hb); have n1_ := Aside0.mk (hbox); have n2_ := Aside0.mk ((by rw [hg]; exact (below_size (by repeat (first | (with_reducible first | exact HB.out | apply below_alloc | apply pw_below_drewN | apply below_drew1) | exact HB.out))) : w.heap.size ≤ gb217)); have n3_ := Aside0.mk ((by rw [hg]; exact (below_size (by repeat (first | (with_reducible first | exact HB.out | apply below_alloc | apply pw_below_drewN | apply below_drew1) | exact HB.out))) : w.heap.size ≤ gb217)); clear HB; have HB := n0_; have BK217 := n1_; have GW217 := n2_; have GE217 := n3_; clear n0_ n1_ n2_ n3_; clear hb hbox hg) | ((with_reducible refine gate_dst (N := 2) rfl ?_); refine box_event ?hg (N := 2) ?hd (cs := #[.int .i64 0, .int .i64 0, .int .i64 0, .int .i64 0, .int .i64 0, .int .i64 0]) (t := 50) ?hr ?_; (case hd => rfl); (case hg => rfl); (case hr => first | (go_simp; done) | (go_simp; rfl)); intro gb218 hg w4 hbox hb; have n0_ := Aside0.mk (blk_below (g := gb217) (o := .cells #[.int .i64 a0_0, .int .i64 a0_1, .int .i64 a0_2, .int .i64 a0_3, .int .i64 a0_4, .int .i64 a0_5] 43 (0, 0)) (by (with_reducible repeat (first | refine blk_drewN ?_ _ | refine blk_drew ?_ | refine blk_alloc ?_ _)); exact BK217.out) hb); have n1_ := Aside0.mk (below_step (by repeat (first | (with_reducible first | exact HB.out | apply below_alloc | apply pw_below_drewN | apply below_drew1 | refine below_set ?_ GE217.out) | exact HB.out)) hb); have n2_ := Aside0.mk (hbox); have n3_ := Aside0.mk ((by rw [hg]; exact (below_size (by repeat (first | (with_reducible first | exact HB.out | apply below_alloc | apply pw_below_drewN | apply below_drew1 | refine below_set ?_ GE217.out) | exact HB.out))) : w.heap.size ≤ gb218)); have n4_ := Aside0.mk ((by rw [hg]; exact (below_size (by repeat (first | (with_reducible first | exact HB.out | apply below_alloc | apply pw_below_drewN | apply below_drew1 | refine below_set ?_ GE217.out) | exact HB.out))) : w.heap.size ≤ gb218)); have n5_ := Aside0.mk ((by rw [hg]; exact Nat.ne_of_lt (blk_lt (g := gb217) (o := .cells #[.int .i64 a0_0, .int .i64 a0_1, .int .i64 a0_2, .int .i64 a0_3, .int .i64 a0_4, .int .i64 a0_5] 43 (0, 0)) (by (with_reducible repeat (first | refine blk_drewN ?_ _ | refine blk_drew ?_ | refine blk_alloc ?_ _)); exact BK217.out)) : gb217 ≠ gb218)); have n6_ := Aside0.mk ((by rw [hg]; exact Nat.ne_of_gt (blk_lt (g := gb217) (o := .cells #[.int .i64 a0_0, .int .i64 a0_1, .int .i64 a0_2, .int .i64 a0_3, .int .i64 a0_4, .int .i64 a0_5] 43 (0, 0)) (by (with_reducible repeat (first | refine blk_drewN ?_ _ | refine blk_drew ?_ | refine blk_alloc ?_ _)); exact BK217.out)) : gb218 ≠ gb217)); clear BK217; clear HB; have BK217 := n0_; have HB := n1_; have BK218 := n2_; have GW218 := n3_; have GE218 := n4_; have NB217_218 := n5_; have NB218_217 := n6_; clear n0_ n1_ n2_ n3_ n4_ n5_ n6_; clear hb hbox hg))
  have n0_ := Aside0.mk (blk_drew BK217.out)
  have n1_ := Aside0.mk (blk_drew BK218.out)
  have n2_ := Aside0.mk (below_drew1 HB.out)
  clear BK217
  clear BK218
  clear HB
  have BK217 := n0_
  have BK218 := n1_
  have HB := n2_
  clear n0_ n1_ n2_
  refine start_ (n := 19) (S := fun w' => w'.cell? ⟨gb217, 0, none⟩ = some (.int .i64 a0_0) ∧ w'.cell? ⟨gb217, 1, none⟩ = some (.int .i64 a0_1) ∧ w'.cell? ⟨gb217, 2, none⟩ = some (.int .i64 a0_2) ∧ w'.cell? ⟨gb217, 3, none⟩ = some (.int .i64 a0_3) ∧ w'.cell? ⟨gb217, 4, none⟩ = some (.int .i64 a0_4) ∧ w'.cell? ⟨gb217, 5, none⟩ = some (.int .i64 a0_5)) (ds := []) #[false, false, false, false, false, false, false, false, false, false, false, false, false, false, false, false, false, false, false] (by kernel_rfl) rfl rfl ⟨(blk_cell BK217.out 0).trans rfl, (blk_cell BK217.out 1).trans rfl, (blk_cell BK217.out 2).trans rfl, (blk_cell BK217.out 3).trans rfl, (blk_cell BK217.out 4).trans rfl, (blk_cell BK217.out 5).trans rfl⟩ (fun hHeld => ?_); refine with_tabW laws_numbers.tab1 laws_numbers.bits1 (fun HT_ HW_ => ?_)
  generalize w4.drew = w5 at BK217 BK218 HB hHeld ⊢
  refine pure_ (i := 0) (N := some 3) (v := ?_) (a' := ?_) #[true, false, false, false, false, false, false, false, false, false, false, false, false, false, false, false, false, false, false] rfl rfl (any_of HT_.out (by kernel_rfl)) (fun _ _ _ h => h) (Or.inl ⟨by rfl, ?_⟩) ?_ ?_
  rotate_left
  · intro w'
    go_simp
    with_reducible rfl
  rotate_left
  · simp only [Act.put, List.setIfInBounds_toArray, List.set_cons_zero, List.set_cons_succ, i64_w, i32_w]
    rfl
  refine pure_ (i := 2) (N := some 5) (v := ?_) (a' := ?_) #[true, false, true, false, false, false, false, false, false, false, false, false, false, false, false, false, false, false, false] rfl rfl (any_of HT_.out (by kernel_rfl)) (fun _ _ _ h => h) (Or.inl ⟨by rfl, ?_⟩) ?_ ?_
  rotate_left
  · intro w'
    go_simp
    with_reducible rfl
  rotate_left
  · simp only [Act.put, List.setIfInBounds_toArray, List.set_cons_zero, List.set_cons_succ, i64_w, i32_w]
    rfl
  refine pure_ (i := 4) (N := some 7) (v := ?_) (a' := ?_) #[true, false, true, false, true, false, false, false, false, false, false, false, false, false, false, false, false, false, false] rfl rfl (any_of HT_.out (by kernel_rfl)) (fun _ _ _ h => h) (Or.inl ⟨by rfl, ?_⟩) ?_ ?_
  rotate_left
  · intro w'
    go_simp
    with_reducible rfl
  rotate_left
  · simp only [Act.put, List.setIfInBounds_toArray, List.set_cons_zero, List.set_cons_succ, i64_w, i32_w]
    rfl
  refine pure_ (i := 6) (N := some 9) (v := ?_) (a' := ?_) #[true, false, true, false, true, false, true, false, false, false, false, false, false, false, false, false, false, false, false] rfl rfl (any_of HT_.out (by kernel_rfl)) (fun _ _ _ h => h) (Or.inl ⟨by rfl, ?_⟩) ?_ ?_
  rotate_left
  · intro w'
    go_simp
    with_reducible rfl
  rotate_left
  · simp only [Act.put, List.setIfInBounds_toArray, List.set_cons_zero, List.set_cons_succ, i64_w, i32_w]
    rfl
  refine pure_ (i := 8) (N := some 11) (v := ?_) (a' := ?_) #[true, false, true, false, true, false, true, false, true, false, false, false, false, false, false, false, false, false, false] rfl rfl (any_of HT_.out (by kernel_rfl)) (fun _ _ _ h => h) (Or.inl ⟨by rfl, ?_⟩) ?_ ?_
  rotate_left
  · intro w'
    go_simp
    with_reducible rfl
  rotate_left
  · simp only [Act.put, List.setIfInBounds_toArray, List.set_cons_zero, List.set_cons_succ, i64_w, i32_w]
    rfl
  refine pure_ (i := 10) (N := some 13) (v := ?_) (a' := ?_) #[true, false, true, false, true, false, true, false, true, false, true, false, false, false, false, false, false, false, false] rfl rfl (any_of HT_.out (by kernel_rfl)) (fun _ _ _ h => h) (Or.inl ⟨by rfl, ?_⟩) ?_ ?_
  rotate_left
  · intro w'
    go_simp
    with_reducible rfl
  rotate_left
  · simp only [Act.put, List.setIfInBounds_toArray, List.set_cons_zero, List.set_cons_succ, i64_w, i32_w]
    rfl
  refine pure_ (i := 12) (N := some 15) (v := ?_) (a' := ?_) #[true, false, true, false, true, false, true, false, true, false, true, false, true, false, false, false, false, false, false] rfl rfl (any_of HT_.out (by kernel_rfl)) (fun _ _ _ h => h) (Or.inl ⟨by rfl, ?_⟩) ?_ ?_
  rotate_left
  · intro w'
    go_simp
    with_reducible rfl
  rotate_left
  · simp only [Act.put, List.setIfInBounds_toArray, List.set_cons_zero, List.set_cons_succ, i64_w, i32_w]
    rfl
  refine pure_ (i := 14) (N := some 17) (v := ?_) (a' := ?_) #[true, false, true, false, true, false, true, false, true, false, true, false, true, false, true, false, false, false, false] rfl rfl (any_of HT_.out (by kernel_rfl)) (fun _ _ _ h => h) (Or.inl ⟨by rfl, ?_⟩) ?_ ?_
  rotate_left
  · intro w'
    go_simp
    with_reducible rfl
  rotate_left
  · simp only [Act.put, List.setIfInBounds_toArray, List.set_cons_zero, List.set_cons_succ, i64_w, i32_w]
    rfl
  refine take_ (i := 1) (N := some 4) (v := ?_) (a' := ?_) #[true, true, true, false, true, false, true, false, true, false, true, false, true, false, true, false, false, false, false] rfl rfl (take_ofW HT_.out HW_.out (by kernel_rfl)) (fun _ _ _ h => h) (Or.inl ⟨by rfl, ?_⟩) hHeld ?_ ?_
  rotate_left
  · rintro w' ⟨s0, s1, s2, s3, s4, s5⟩
    go_simp
    with_reducible rfl
  rotate_left
  · simp only [Act.put, List.setIfInBounds_toArray, List.set_cons_zero, List.set_cons_succ, i64_w, i32_w]
    rfl
  refine take_ (i := 3) (N := some 6) (v := ?_) (a' := ?_) #[true, true, true, true, true, false, true, false, true, false, true, false, true, false, true, false, false, false, false] rfl rfl (take_ofW HT_.out HW_.out (by kernel_rfl)) (fun _ _ _ h => h) (Or.inl ⟨by rfl, ?_⟩) hHeld ?_ ?_
  rotate_left
  · rintro w' ⟨s0, s1, s2, s3, s4, s5⟩
    go_simp
    with_reducible rfl
  rotate_left
  · simp only [Act.put, List.setIfInBounds_toArray, List.set_cons_zero, List.set_cons_succ, i64_w, i32_w]
    rfl
  refine take_ (i := 5) (N := some 8) (v := ?_) (a' := ?_) #[true, true, true, true, true, true, true, false, true, false, true, false, true, false, true, false, false, false, false] rfl rfl (take_ofW HT_.out HW_.out (by kernel_rfl)) (fun _ _ _ h => h) (Or.inl ⟨by rfl, ?_⟩) hHeld ?_ ?_
  rotate_left
  · rintro w' ⟨s0, s1, s2, s3, s4, s5⟩
    go_simp
    with_reducible rfl
  rotate_left
  · simp only [Act.put, List.setIfInBounds_toArray, List.set_cons_zero, List.set_cons_succ, i64_w, i32_w]
    rfl
  refine take_ (i := 7) (N := some 10) (v := ?_) (a' := ?_) #[true, true, true, true, true, true, true, true, true, false, true, false, true, false, true, false, false, false, false] rfl rfl (take_ofW HT_.out HW_.out (by kernel_rfl)) (fun _ _ _ h => h) (Or.inl ⟨by rfl, ?_⟩) hHeld ?_ ?_
  rotate_left
  · rintro w' ⟨s0, s1, s2, s3, s4, s5⟩
    go_simp
    with_reducible rfl
  rotate_left
  · simp only [Act.put, List.setIfInBounds_toArray, List.set_cons_zero, List.set_cons_succ, i64_w, i32_w]
    rfl
  refine take_ (i := 9) (N := some 12) (v := ?_) (a' := ?_) #[true, true, true, true, true, true, true, true, true, true, true, false, true, false, true, false, false, false, false] rfl rfl (take_ofW HT_.out HW_.out (by kernel_rfl)) (fun _ _ _ h => h) (Or.inl ⟨by rfl, ?_⟩) hHeld ?_ ?_
  rotate_left
  · rintro w' ⟨s0, s1, s2, s3, s4, s5⟩
    go_simp
    with_reducible rfl
  rotate_left
  · simp only [Act.put, List.setIfInBounds_toArray, List.set_cons_zero, List.set_cons_succ, i64_w, i32_w]
    rfl
  refine take_ (i := 11) (N := some 14) (v := ?_) (a' := ?_) #[true, true, true, true, true, true, true, true, true, true, true, true, true, false, true, false, false, false, false] rfl rfl (take_ofW HT_.out HW_.out (by kernel_rfl)) (fun _ _ _ h => h) (Or.inl ⟨by rfl, ?_⟩) hHeld ?_ ?_
  rotate_left
  · rintro w' ⟨s0, s1, s2, s3, s4, s5⟩
    go_simp
    with_reducible rfl
  rotate_left
  · simp only [Act.put, List.setIfInBounds_toArray, List.set_cons_zero, List.set_cons_succ, i64_w, i32_w]
    rfl
  refine take_ (i := 13) (N := some 16) (v := ?_) (a' := ?_) #[true, true, true, true, true, true, true, true, true, true, true, true, true, true, true, false, false, false, false] rfl rfl (take_ofW HT_.out HW_.out (by kernel_rfl)) (fun _ _ _ h => h) (Or.inl ⟨by rfl, ?_⟩) hHeld ?_ ?_
  rotate_left
  · rintro w' ⟨s0, s1, s2, s3, s4, s5⟩
    go_simp
    with_reducible rfl
  rotate_left
  · simp only [Act.put, List.setIfInBounds_toArray, List.set_cons_zero, List.set_cons_succ, i64_w, i32_w]
    rfl
  refine take_ (i := 15) (N := some 18) (v := ?_) (a' := ?_) #[true, true, true, true, true, true, true, true, true, true, true, true, true, true, true, true, false, false, false] rfl rfl (take_ofW HT_.out HW_.out (by kernel_rfl)) (fun _ _ _ h => h) (Or.inl ⟨by rfl, ?_⟩) hHeld ?_ ?_
  rotate_left
  · rintro w' ⟨s0, s1, s2, s3, s4, s5⟩
    go_simp
    with_reducible rfl
  rotate_left
  · simp only [Act.put, List.setIfInBounds_toArray, List.set_cons_zero, List.set_cons_succ, i64_w, i32_w]
    rfl
  refine one_ (i := 16) (N := some 19) #[true, true, true, true, true, true, true, true, true, true, true, true, true, true, true, true, true, false, false] rfl rfl (one_of HT_.out (by kernel_rfl)) (by decide) (fun K hK => ?_)
  refine goes_ Tryz.func38 (by kernel_rfl) rfl #[.int .i64 a0_0, .int .i64 a0_1, .int .i64 a0_2] (by rfl) rfl rfl (by (try simp only [List.map_toArray, List.map_cons, List.map_nil]); first | done | rfl | (simp only [List.length_drop, List.length_take]; rfl)) ?_
  with_reducible refine (spec_Weekday.calls k a0_0 a0_1 a0_2 t219 _ A2.out).mono ?_
  rintro e w' ⟨rfl, ⟨nd, rfl⟩⟩
  refine ⟨_, rfl, ?_⟩
  refine hK.out _ _ ⟨(blk_cell BK217.out 0).trans rfl, (blk_cell BK217.out 1).trans rfl, (blk_cell BK217.out 2).trans rfl, (blk_cell BK217.out 3).trans rfl, (blk_cell BK217.out 4).trans rfl, (blk_cell BK217.out 5).trans rfl⟩ (fun hHeld => ?_)
  clear hK K
  refine norm_ (a' := ?_) ?_ ?_
  rotate_left
  · show Act.put _ (some 19) _ = _
    simp only [Act.put, List.setIfInBounds_toArray, List.set_cons_zero, List.set_cons_succ, i64_w, i32_w]
    rfl
  refine pure_ (i := 17) (N := some 20) (v := ?_) (a' := ?_) #[true, true, true, true, true, true, true, true, true, true, true, true, true, true, true, true, true, true, false] rfl rfl (any_of HT_.out (by kernel_rfl)) (fun _ _ _ h => h) (Or.inl ⟨by rfl, ?_⟩) ?_ ?_
  rotate_left
  · intro w'
    go_simp
    with_reducible rfl
  rotate_left
  · simp only [Act.put, List.setIfInBounds_toArray, List.set_cons_zero, List.set_cons_succ, i64_w, i32_w]
    rfl
  refine one_ (i := 18) (N := none) #[true, true, true, true, true, true, true, true, true, true, true, true, true, true, true, true, true, true, true] rfl rfl (one_of HT_.out (by kernel_rfl)) (by decide) (fun K hK => ?_)
  have hs6 : w5.cell? ⟨gb218, 0, none⟩ = some (.int .i64 0) := (blk_cell BK218.out 0).trans rfl
  have hfs6 := blk_frozen BK218.out 0
  have hns6_0 := NB217_218.out
  have hms6_0 := NB218_217.out
  have hs7 : w5.cell? ⟨gb218, 1, none⟩ = some (.int .i64 0) := (blk_cell BK218.out 1).trans rfl
  have hfs7 := blk_frozen BK218.out 1
  have hns7_0 := NB217_218.out
  have hms7_0 := NB218_217.out
  have hs8 : w5.cell? ⟨gb218, 2, none⟩ = some (.int .i64 0) := (blk_cell BK218.out 2).trans rfl
  have hfs8 := blk_frozen BK218.out 2
  have hns8_0 := NB217_218.out
  have hms8_0 := NB218_217.out
  have hs9 : w5.cell? ⟨gb218, 3, none⟩ = some (.int .i64 0) := (blk_cell BK218.out 3).trans rfl
  have hfs9 := blk_frozen BK218.out 3
  have hns9_0 := NB217_218.out
  have hms9_0 := NB218_217.out
  have hs10 : w5.cell? ⟨gb218, 4, none⟩ = some (.int .i64 0) := (blk_cell BK218.out 4).trans rfl
  have hfs10 := blk_frozen BK218.out 4
  have hns10_0 := NB217_218.out
  have hms10_0 := NB218_217.out
  have hs11 : w5.cell? ⟨gb218, 5, none⟩ = some (.int .i64 0) := (blk_cell BK218.out 5).trans rfl
  have hfs11 := blk_frozen BK218.out 5
  have hns11_0 := NB217_218.out
  have hms11_0 := NB218_217.out
  refine skip_ (w1 := ?_) (by rfl) rfl ?_ ?_
  rotate_left
  · go_simp
    rfl
  refine hK.out _ _ ⟨((cell_far (p := ⟨gb218, _, none⟩) NB217_218.out _).trans (((cell_far (p := ⟨gb218, _, none⟩) NB217_218.out _).trans (((cell_far (p := ⟨gb218, _, none⟩) NB217_218.out _).trans (((cell_far (p := ⟨gb218, _, none⟩) NB217_218.out _).trans (((cell_far (p := ⟨gb218, _, none⟩) NB217_218.out _).trans (((cell_far (p := ⟨gb218, _, none⟩) NB217_218.out _).trans (hHeld.1)))))))))))), ((cell_far (p := ⟨gb218, _, none⟩) NB217_218.out _).trans (((cell_far (p := ⟨gb218, _, none⟩) NB217_218.out _).trans (((cell_far (p := ⟨gb218, _, none⟩) NB217_218.out _).trans (((cell_far (p := ⟨gb218, _, none⟩) NB217_218.out _).trans (((cell_far (p := ⟨gb218, _, none⟩) NB217_218.out _).trans (((cell_far (p := ⟨gb218, _, none⟩) NB217_218.out _).trans (hHeld.2.1)))))))))))), ((cell_far (p := ⟨gb218, _, none⟩) NB217_218.out _).trans (((cell_far (p := ⟨gb218, _, none⟩) NB217_218.out _).trans (((cell_far (p := ⟨gb218, _, none⟩) NB217_218.out _).trans (((cell_far (p := ⟨gb218, _, none⟩) NB217_218.out _).trans (((cell_far (p := ⟨gb218, _, none⟩) NB217_218.out _).trans (((cell_far (p := ⟨gb218, _, none⟩) NB217_218.out _).trans (hHeld.2.2.1)))))))))))), ((cell_far (p := ⟨gb218, _, none⟩) NB217_218.out _).trans (((cell_far (p := ⟨gb218, _, none⟩) NB217_218.out _).trans (((cell_far (p := ⟨gb218, _, none⟩) NB217_218.out _).trans (((cell_far (p := ⟨gb218, _, none⟩) NB217_218.out _).trans (((cell_far (p := ⟨gb218, _, none⟩) NB217_218.out _).trans (((cell_far (p := ⟨gb218, _, none⟩) NB217_218.out _).trans (hHeld.2.2.2.1)))))))))))), ((cell_far (p := ⟨gb218, _, none⟩) NB217_218.out _).trans (((cell_far (p := ⟨gb218, _, none⟩) NB217_218.out _).trans (((cell_far (p := ⟨gb218, _, none⟩) NB217_218.out _).trans (((cell_far (p := ⟨gb218, _, none⟩) NB217_218.out _).trans (((cell_far (p := ⟨gb218, _, none⟩) NB217_218.out _).trans (((cell_far (p := ⟨gb218, _, none⟩) NB217_218.out _).trans (hHeld.2.2.2.2.1)))))))))))), ((cell_far (p := ⟨gb218, _, none⟩) NB217_218.out _).trans (((cell_far (p := ⟨gb218, _, none⟩) NB217_218.out _).trans (((cell_far (p := ⟨gb218, _, none⟩) NB217_218.out _).trans (((cell_far (p := ⟨gb218, _, none⟩) NB217_218.out _).trans (((cell_far (p := ⟨gb218, _, none⟩) NB217_218.out _).trans (((cell_far (p := ⟨gb218, _, none⟩) NB217_218.out _).trans (hHeld.2.2.2.2.2))))))))))))⟩ (fun hHeld => ?_)
  clear hK K
  refine done_ (done_of HT_.out (by kernel_rfl)) ?_
  try go_wp2
  refine bodyPost_ret (results_cell_row rfl _ _ gb218 50 #[.int .i64 a0_5, .int .i64 a0_4, .int .i64 a0_3, .int .i64 a0_2, .int .i64 a0_1, .int .i64 t219] (0, 0) _ rfl (by (with_reducible repeat (first | refine blk_drewN ?_ _ | refine blk_drew ?_ | refine blk_alloc ?_ _)); refine blk_put (cs := #[.int .i64 a0_5, .int .i64 a0_4, .int .i64 a0_3, .int .i64 a0_2, .int .i64 a0_1, .int .i64 0]) ?_ 5 _ rfl; (with_reducible repeat (first | refine blk_drewN ?_ _ | refine blk_drew ?_ | refine blk_alloc ?_ _)); refine blk_put (cs := #[.int .i64 a0_5, .int .i64 a0_4, .int .i64 a0_3, .int .i64 a0_2, .int .i64 0, .int .i64 0]) ?_ 4 _ rfl; (with_reducible repeat (first | refine blk_drewN ?_ _ | refine blk_drew ?_ | refine blk_alloc ?_ _)); refine blk_put (cs := #[.int .i64 a0_5, .int .i64 a0_4, .int .i64 a0_3, .int .i64 0, .int .i64 0, .int .i64 0]) ?_ 3 _ rfl; (with_reducible repeat (first | refine blk_drewN ?_ _ | refine blk_drew ?_ | refine blk_alloc ?_ _)); refine blk_put (cs := #[.int .i64 a0_5, .int .i64 a0_4, .int .i64 0, .int .i64 0, .int .i64 0, .int .i64 0]) ?_ 2 _ rfl; (with_reducible repeat (first | refine blk_drewN ?_ _ | refine blk_drew ?_ | refine blk_alloc ?_ _)); refine blk_put (cs := #[.int .i64 a0_5, .int .i64 0, .int .i64 0, .int .i64 0, .int .i64 0, .int .i64 0]) ?_ 1 _ rfl; (with_reducible repeat (first | refine blk_drewN ?_ _ | refine blk_drew ?_ | refine blk_alloc ?_ _)); refine blk_put (cs := #[.int .i64 0, .int .i64 0, .int .i64 0, .int .i64 0, .int .i64 0, .int .i64 0]) ?_ 0 _ rfl; (with_reducible repeat (first | refine blk_drewN ?_ _ | refine blk_drew ?_ | refine blk_alloc ?_ _)); exact BK218.out) Tryz.underlying50 rfl (by kernel_rfl)) rfl ?_
  exact ⟨by first | rfl | (simp [errW_none, errW_some] <;> rfl) | (simp [*, errW_none, errW_some] <;> rfl), by repeat (first | (with_reducible first | exact HB.out | apply below_alloc | apply pw_below_drewN | apply below_drew1 | refine below_set ?_ GE217.out | refine below_set ?_ GE218.out) | exact HB.out)⟩
end Go.Proofs.YtemgofomhjabpaaGreatDoor.Core
namespace Go.Proofs.YtemgofomhjabpaaGreatDoor.Core
open Go.RowKit Go.Proofs.YtemgofomhjabpaaGreatDoorW.PrintWords Go.Proofs.YtemgofomhjabpaaGreatDoorW.PrintLast Go.Proofs.YtemgofomhjabpaaGreatDoorW.PrintMore
attribute [local go_sem] max2_int min2_int max_two min_two max_three min_three max_four min_four   -- for this text's walks alone
set_option linter.unusedVariables false
set_option linter.unusedSimpArgs false
def laws_moment.f (a0_0 : Int) (a0_1 : Int) (a0_2 : Int) (a0_3 : Int) (a0_4 : Int) (a0_5 : Int) : Option (Int × Int × Int × Int × Int × Int) := some (a0_0, a0_1, a0_2, a0_3, a0_4, a0_5)
set_option maxHeartbeats 8000000 in
set_option maxRecDepth 100000 in
theorem laws_moment.calls (a0_0 : Int) (a0_1 : Int) (a0_2 : Int) (a0_3 : Int) (a0_4 : Int) (a0_5 : Int) (r1 : Int) (r2 : Int) (r3 : Int) (r4 : Int) (r5 : Int) (r6 : Int) (w : World) (h : laws_moment.f a0_0 a0_1 a0_2 a0_3 a0_4 a0_5 = some (r1, r2, r3, r4, r5, r6)) :
    Calls Tryz.prog 19 #[.agg #[.int .i64 a0_0, .int .i64 a0_1, .int .i64 a0_2, .int .i64 a0_3, .int .i64 a0_4, .int .i64 a0_5]] w fun e w' => e = .returned (.agg #[.int .i64 r1, .int .i64 r2, .int .i64 r3, .int .i64 r4, .int .i64 r5, .int .i64 r6]) ∧ Below w.heap.size w w' := by
  have hu26 := Tryz.underlying26
  have hu43 := Tryz.underlying43
  have HB := Aside0.mk (Below.refl w.heap.size w)
  have H : (some (a0_0, a0_1, a0_2, a0_3, a0_4, a0_5)) = some (r1, r2, r3, r4, r5, r6) := h
  clear h
  simp only [Option.some.injEq, Prod.mk.injEq] at H
  obtain ⟨rfl, rfl, rfl, rfl, rfl, rfl⟩ := H
  go_enter Tryz.func19, Tryz.ntmps19
  go_wp2_with (first | ((with_reducible refine gate_dst (N := 1) rfl ?_); refine box_event ?hg (N := 1) ?hd (cs := #[.int .i64 a0_0, .int .i64 a0_1, .int .i64 a0_2, .int .i64 a0_3, .int .i64 a0_4, .int .i64 a0_5]) (t := 26) ?hr ?_; (case hd => rfl); (case hg => rfl); (case hr => first | (go_simp; done) | (go_simp; rfl)); intro gb119 hg w2 hbox hb; have n0_ := Aside0.mk (below_step (by repeat (first | (with_reducible first | exact HB.out | apply below_alloc | apply pw_below_drewN | apply below_drew1) | exact HB.out)) hb); have n1_ := Aside0.mk (hbox); have n2_ := Aside0.mk ((by rw [hg]; exact (below_size (by repeat (first | (with_reducible first | exact HB.out | apply below_alloc | apply pw_below_drewN | apply below_drew1) | exact HB.out))) : w.heap.size ≤ gb119)); have n3_ := Aside0.mk ((by rw [hg]; exact (below_size (by repeat (first | (with_reducible first | exact HB.out | apply below_alloc | apply pw_below_drewN | apply below_drew1) | exact HB.out))) : w.heap.size ≤ gb119)); clear HB; have HB := n0_; have BK119 := n1_; have GW119 := n2_; have GE119 := n3_; clear n0_ n1_ n2_ n3_; clear hb hbox hg) | ((with_reducible refine gate_dst (N := 2) rfl ?_); refine box_event ?hg (N := 2) ?hd (cs := #[.int .i64 0, .int .i64 0, .int .i64 0, .int .i64 0, .int .i64 0, .int .i64 0]) (t := 43) ?hr ?_; (case hd => rfl); (case hg => rfl); (case hr => first | (go_simp; done) | (go_simp; rfl)); intro gb120 hg w3 hbox hb; have n0_ := Aside0.mk (blk_below (g := gb119) (o := .cells #[.int .i64 a0_0, .int .i64 a0_1, .int .i64 a0_2, .int .i64 a0_3, .int .i64 a0_4, .int .i64 a0_5] 26 (0, 0)) (by (with_reducible repeat (first | refine blk_drewN ?_ _ | refine blk_drew ?_ | refine blk_alloc ?_ _)); exact BK119.out) hb); have n1_ := Aside0.mk (below_step (by repeat (first | (with_reducible first | exact HB.out | apply below_alloc | apply pw_below_drewN | apply below_drew1 | refine below_set ?_ GE119.out) | exact HB.out)) hb); have n2_ := Aside0.mk (hbox); have n3_ := Aside0.mk ((by rw [hg]; exact (below_size (by repeat (first | (with_reducible first | exact HB.out | apply below_alloc | apply pw_below_drewN | apply below_drew1 | refine below_set ?_ GE119.out) | exact HB.out))) : w.heap.size ≤ gb120)); have n4_ := Aside0.mk ((by rw [hg]; exact (below_size (by repeat (first | (with_reducible first | exact HB.out | apply below_alloc | apply pw_below_drewN | apply below_drew1 | refine below_set ?_ GE119.out) | exact HB.out))) : w.heap.size ≤ gb120)); have n5_ := Aside0.mk ((by rw [hg]; exact Nat.ne_of_lt (blk_lt (g := gb119) (o := .cells #[.int .i64 a0_0, .int .i64 a0_1, .int .i64 a0_2, .int .i64 a0_3, .int .i64 a0_4, .int .i64 a0_5] 26 (0, 0)) (by (with_reducible repeat (first | refine blk_drewN ?_ _ | refine blk_drew ?_ | refine blk_alloc ?_ _)); exact BK119.out)) : gb119 ≠ gb120)); have n6_ := Aside0.mk ((by rw [hg]; exact Nat.ne_of_gt (blk_lt (g := gb119) (o := .cells #[.int .i64 a0_0, .int .i64 a0_1, .int .i64 a0_2, .int .i64 a0_3, .int .i64 a0_4, .int .i64 a0_5] 26 (0, 0)) (by (with_reducible repeat (first | refine blk_drewN ?_ _ | refine blk_drew ?_ | refine blk_alloc ?_ _)); exact BK119.out)) : gb120 ≠ gb119)); clear BK119; clear HB; have BK119 := n0_; have HB := n1_; have BK120 := n2_; have GW120 := n3_; have GE120 := n4_; have NB119_120 := n5_; have NB120_119 := n6_; clear n0_ n1_ n2_ n3_ n4_ n5_ n6_; clear hb hbox hg; have hnb4 := NB119_120.out; have hnc4 := NB120_119.out; have hcz5_0 : w3.cell? ⟨gb119, 0, none⟩ = some (.int .i64 a0_0) := (blk_cell BK119.out 0).trans rfl; have hcz5_1 : w3.cell? ⟨gb119, 1, none⟩ = some (.int .i64 a0_1) := (blk_cell BK119.out 1).trans rfl; have hcz5_2 : w3.cell? ⟨gb119, 2, none⟩ = some (.int .i64 a0_2) := (blk_cell BK119.out 2).trans rfl; have hcz5_3 : w3.cell? ⟨gb119, 3, none⟩ = some (.int .i64 a0_3) := (blk_cell BK119.out 3).trans rfl; have hcz5_4 : w3.cell? ⟨gb119, 4, none⟩ = some (.int .i64 a0_4) := (blk_cell BK119.out 4).trans rfl; have hcz5_5 : w3.cell? ⟨gb119, 5, none⟩ = some (.int .i64 a0_5) := (blk_cell BK119.out 5).trans rfl; have hfz5_0 := blk_frozen BK119.out 0; have hfz5_1 := blk_frozen BK119.out 1; have hfz5_2 := blk_frozen BK119.out 2; have hfz5_3 := blk_frozen BK119.out 3; have hfz5_4 := blk_frozen BK119.out 4; have hfz5_5 := blk_frozen BK119.out 5; have hcz6_0 : w3.cell? ⟨gb120, 0, none⟩ = some (.int .i64 0) := (blk_cell BK120.out 0).trans rfl; have hcz6_1 : w3.cell? ⟨gb120, 1, none⟩ = some (.int .i64 0) := (blk_cell BK120.out 1).trans rfl; have hcz6_2 : w3.cell? ⟨gb120, 2, none⟩ = some (.int .i64 0) := (blk_cell BK120.out 2).trans rfl; have hcz6_3 : w3.cell? ⟨gb120, 3, none⟩ = some (.int .i64 0) := (blk_cell BK120.out 3).trans rfl; have hcz6_4 : w3.cell? ⟨gb120, 4, none⟩ = some (.int .i64 0) := (blk_cell BK120.out 4).trans rfl; have hcz6_5 : w3.cell? ⟨gb120, 5, none⟩ = some (.int .i64 0) := (blk_cell BK120.out 5).trans rfl; have hfz6_0 := blk_frozen BK120.out 0; have hfz6_1 := blk_frozen BK120.out 1; have hfz6_2 := blk_frozen BK120.out 2; have hfz6_3 := blk_frozen BK120.out 3; have hfz6_4 := blk_frozen BK120.out 4; have hfz6_5 := blk_frozen BK120.out 5))
  refine bodyPost_ret (results_cell_row rfl _ _ gb120 43 #[.int .i64 a0_0, .int .i64 a0_1, .int .i64 a0_2, .int .i64 a0_3, .int .i64 a0_4, .int .i64 a0_5] (0, 0) _ rfl (by (with_reducible repeat (first | refine blk_drewN ?_ _ | refine blk_drew ?_ | refine blk_alloc ?_ _)); refine blk_put (cs := #[.int .i64 a0_0, .int .i64 a0_1, .int .i64 a0_2, .int .i64 a0_3, .int .i64 a0_4, .int .i64 0]) ?_ 5 _ rfl; (with_reducible repeat (first | refine blk_drewN ?_ _ | refine blk_drew ?_ | refine blk_alloc ?_ _)); refine blk_put (cs := #[.int .i64 a0_0, .int .i64 a0_1, .int .i64 a0_2, .int .i64 a0_3, .int .i64 0, .int .i64 0]) ?_ 4 _ rfl; (with_reducible repeat (first | refine blk_drewN ?_ _ | refine blk_drew ?_ | refine blk_alloc ?_ _)); refine blk_put (cs := #[.int .i64 a0_0, .int .i64 a0_1, .int .i64 a0_2, .int .i64 0, .int .i64 0, .int .i64 0]) ?_ 3 _ rfl; (with_reducible repeat (first | refine blk_drewN ?_ _ | refine blk_drew ?_ | refine blk_alloc ?_ _)); refine blk_put (cs := #[.int .i64 a0_0, .int .i64 a0_1, .int .i64 0, .int .i64 0, .int .i64 0, .int .i64 0]) ?_ 2 _ rfl; (with_reducible repeat (first | refine blk_drewN ?_ _ | refine blk_drew ?_ | refine blk_alloc ?_ _)); refine blk_put (cs := #[.int .i64 a0_0, .int .i64 0, .int .i64 0, .int .i64 0, .int .i64 0, .int .i64 0]) ?_ 1 _ rfl; (with_reducible repeat (first | refine blk_drewN ?_ _ | refine blk_drew ?_ | refine blk_alloc ?_ _)); refine blk_put (cs := #[.int .i64 0, .int .i64 0, .int .i64 0, .int .i64 0, .int .i64 0, .int .i64 0]) ?_ 0 _ rfl; (with_reducible repeat (first | refine blk_drewN ?_ _ | refine blk_drew ?_ | refine blk_alloc ?_ _)); exact BK120.out) Tryz.underlying43 rfl (by kernel_rfl)) rfl ?_
  exact ⟨by first | rfl | (simp [errW_none, errW_some] <;> rfl) | (simp [*, errW_none, errW_some] <;> rfl), by repeat (first | (with_reducible first | exact HB.out | apply below_alloc | apply pw_below_drewN | apply below_drew1 | refine below_set ?_ GE119.out | refine below_set ?_ GE120.out) | exact HB.out)⟩
end Go.Proofs.YtemgofomhjabpaaGreatDoor.Core
namespace Go.Proofs.YtemgofomhjabpaaGreatDoor.Core
open Go.RowKit Go.Proofs.YtemgofomhjabpaaGreatDoorW.PrintWords Go.Proofs.YtemgofomhjabpaaGreatDoorW.PrintLast Go.Proofs.YtemgofomhjabpaaGreatDoorW.PrintMore
attribute [local go_sem] max2_int min2_int max_two min_two max_three min_three max_four min_four   -- for this text's walks alone
set_option linter.unusedVariables false
set_option linter.unusedSimpArgs false
def spec_Low.f (a0 : Int) : Option (Int) := if a0 = 3 then (some 1) else (if a0 = 4 then (some 1) else (some 0))
set_option maxHeartbeats 8000000 in
set_option maxRecDepth 100000 in
theorem spec_Low.calls (a0 : Int) (r : Int) (w : World) (h : spec_Low.f a0 = some r) :
    Calls Tryz.prog 20 #[.int .i64 a0] w fun e w' => e = .returned (.int .i64 r) ∧ Drawn0 w w' := by
  have H : (if a0 = 3 then (some 1) else (if a0 = 4 then (some 1) else (some 0))) = some r := h
  clear h
  by_cases c2 : a0 = 3
  · rw [if_pos c2] at H
    have c2b0 : (a0 == 3) = true := beq_iff_eq.mpr c2
    have c2b1 : (a0 != 3) = false := bne_eq_false_iff_eq.mpr c2
    clear c2
    obtain rfl := Option.some.inj H
    go_enter Tryz.func20, Tryz.ntmps20
    go_wp2
    go_ret
    exact ⟨by first | rfl | (simp; done) | (simp [*]; done), by repeat (first | exact Drawn0.refl _ | apply Drawn0.step)⟩
  · rw [if_neg c2] at H
    have c2b0 : (a0 == 3) = false := beq_eq_false_iff_ne.mpr c2
    have c2b1 : (a0 != 3) = true := bne_iff_ne.mpr c2
    by_cases c3 : a0 = 4
    · rw [if_pos c3] at H
      have c3b0 : (a0 == 4) = true := beq_iff_eq.mpr c3
      have c3b1 : (a0 != 4) = false := bne_eq_false_iff_eq.mpr c3
      clear c3
      obtain rfl := Option.some.inj H
      go_enter Tryz.func20, Tryz.ntmps20
      go_wp2
      go_ret
      exact ⟨by first | rfl | (simp; done) | (simp [*]; done), by repeat (first | exact Drawn0.refl _ | apply Drawn0.step)⟩
    · rw [if_neg c3] at H
      have c3b0 : (a0 == 4) = false := beq_eq_false_iff_ne.mpr c3
      have c3b1 : (a0 != 4) = true := bne_iff_ne.mpr c3
      obtain rfl := Option.some.inj H
      go_enter Tryz.func20, Tryz.ntmps20
      go_wp2
      go_ret
      exact ⟨by first | rfl | (simp; done) | (simp [*]; done), by repeat (first | exact Drawn0.refl _ | apply Drawn0.step)⟩
end Go.Proofs.YtemgofomhjabpaaGreatDoor.Core
namespace Go.Proofs.YtemgofomhjabpaaGreatDoor.Core
open Go.RowKit Go.Proofs.YtemgofomhjabpaaGreatDoorW.PrintWords Go.Proofs.YtemgofomhjabpaaGreatDoorW.PrintLast Go.Proofs.YtemgofomhjabpaaGreatDoorW.PrintMore
attribute [local go_sem] max2_int min2_int max_two min_two max_three min_three max_four min_four   -- for this text's walks alone
set_option linter.unusedVariables false
set_option linter.unusedSimpArgs false
def spec_High.f (a0 : Int) : Option (Int) := if 0 ≤ a0 then (if a0 < 6 then (some (rd [59, 59, 23, 31, 12, 6] a0)) else (none)) else (none)
set_option maxHeartbeats 8000000 in
set_option maxRecDepth 100000 in
theorem spec_High.calls (a0 : Int) (r : Int) (w : World) (h : spec_High.f a0 = some r) :
    Calls Tryz.prog 21 #[.int .i64 a0] w fun e w' => e = .returned (.int .i64 r) ∧ Drawn0 w w' := by
  have hu50 := Tryz.underlying50
  have H : (if 0 ≤ a0 then (if a0 < 6 then (some (rd [59, 59, 23, 31, 12, 6] a0)) else (none)) else (none)) = some r := h
  clear h
  by_cases c2 : 0 ≤ a0
  · rw [if_pos c2] at H
    have c2b0 : decide (0 ≤ a0) = true := decide_eq_true c2
    clear c2
    by_cases c3 : a0 < 6
    · rw [if_pos c3] at H
      have c3b0 : decide (a0 < 6) = true := decide_eq_true c3
      clear c3
      have hixz123_ := fun w_ : World => (index_T50 59 59 23 31 12 6 a0 (of_decide_eq_true (by first | (with_reducible assumption) | assumption)) (of_decide_eq_true (by first | (with_reducible assumption) | assumption)) w_ : (Instr.index 50 (.agg #[.int .i64 59, .int .i64 59, .int .i64 23, .int .i64 31, .int .i64 12, .int .i64 6]) (.int .i64 a0)).run Tryz.prog w_ = .ok (.int .i64 (rd [59, 59, 23, 31, 12, 6] a0)) w_)
      obtain rfl := Option.some.inj H
      go_enter Tryz.func21, Tryz.ntmps21
      go_wp2
      go_ret
      exact ⟨by first | rfl | (simp; done) | (simp [*]; done), by repeat (first | exact Drawn0.refl _ | apply Drawn0.step)⟩
    · rw [if_neg c3] at H
      exact absurd H (by simp)
  · rw [if_neg c2] at H
    exact absurd H (by simp)
end Go.Proofs.YtemgofomhjabpaaGreatDoor.Core
namespace Go.Proofs.YtemgofomhjabpaaGreatDoor.Core
open Go.RowKit
theorem calls_one {P : Program} {f : FuncId} {args : Array Value} {w : World} {r r' : Value} {R R' : World → Prop} (h : Calls P f args w fun e w' => e = .returned r ∧ R w') (h' : Calls P f args w fun e w' => e = .returned r' ∧ R' w') (hi : P.inits.idxOf? f = none) : r = r' := by
  have g : ∀ {q : Value} {Q : World → Prop}, Calls P f args w (fun e w' => e = .returned q ∧ Q w') → Calls P f args w fun | .returned v, w' => v = q ∧ w' = w' | _, _ => False :=
    fun h => h.mono fun e w' h => by obtain ⟨rfl, _⟩ := h; exact ⟨rfl, rfl⟩
  obtain ⟨n, v, w1, e1, r1, _⟩ := (g h).done hi
  obtain ⟨m, v', w2, e2, r2, _⟩ := (g h').done hi
  have := runN_same_end e1 e2
  injection this with hv
  rw [← r1, ← r2, hv]
end Go.Proofs.YtemgofomhjabpaaGreatDoor.Core
namespace Go.Proofs.YtemgofomhjabpaaGreatDoor.Core
open Go.RowKit
def DueC (t : ByteArray) (y mo d h mi s : Int) (b ok : Bool) : Prop := ∀ w, Calls Tryz.prog 14 #[.string t, .agg #[.int .i64 y, .int .i64 mo, .int .i64 d, .int .i64 h, .int .i64 mi, .int .i64 s]] w fun e w' => e = .returned (.tuple #[.bool b, .bool ok]) ∧ Below w.heap.size w w'
open Classical in
noncomputable def impl_Due.f (t : ByteArray) (y mo d h mi s : Int) : Option (Bool × Bool) :=
  if hx : ∃ p : Bool × Bool, DueC t y mo d h mi s p.1 p.2 then some (Classical.choose hx) else none
theorem impl_Due.calls (t : ByteArray) (y mo d h mi s : Int) (r1 r2 : Bool) (w : World) (hf : impl_Due.f t y mo d h mi s = some (r1, r2)) :
    Calls Tryz.prog 14 #[.string t, .agg #[.int .i64 y, .int .i64 mo, .int .i64 d, .int .i64 h, .int .i64 mi, .int .i64 s]] w fun e w' => e = .returned (.tuple #[.bool r1, .bool r2]) ∧ Below w.heap.size w w' := by
  unfold impl_Due.f at hf
  split at hf
  · rename_i hx
    have hp := Classical.choose_spec hx
    rw [Option.some.inj hf] at hp
    exact hp w
  · cases hf
theorem DueC.eq {t : ByteArray} {y mo d h mi s : Int} {b ok : Bool} (hd : DueC t y mo d h mi s b ok) : impl_Due.f t y mo d h mi s = some (b, ok) := by
  have hx : ∃ p : Bool × Bool, DueC t y mo d h mi s p.1 p.2 := ⟨(b, ok), hd⟩
  unfold impl_Due.f
  rw [dif_pos hx]
  have hp := Classical.choose_spec hx
  have e := calls_one (hp default) (hd default) (by kernel_rfl)
  injection e with e
  generalize Classical.choose hx = p at e
  obtain ⟨p1, p2⟩ := p
  simp at e
  rw [e.1, e.2]
end Go.Proofs.YtemgofomhjabpaaGreatDoor.Core
namespace Go.Proofs.YtemgofomhjabpaaGreatDoor.Core
open Go.RowKit
def GoodC (y mo d h mi s : Int) (b : Bool) : Prop := ∀ w, Calls Tryz.prog 22 #[.agg #[.int .i64 y, .int .i64 mo, .int .i64 d, .int .i64 h, .int .i64 mi, .int .i64 s]] w fun e w' => e = .returned (.bool b) ∧ Below w.heap.size w w'
open Classical in
noncomputable def spec_MomentGood.f (y mo d h mi s : Int) : Option Bool :=
  if hx : ∃ p : Bool, GoodC y mo d h mi s p then some (Classical.choose hx) else none
theorem spec_MomentGood.calls (y mo d h mi s : Int) (r : Bool) (w : World) (hf : spec_MomentGood.f y mo d h mi s = some r) :
    Calls Tryz.prog 22 #[.agg #[.int .i64 y, .int .i64 mo, .int .i64 d, .int .i64 h, .int .i64 mi, .int .i64 s]] w fun e w' => e = .returned (.bool r) ∧ Below w.heap.size w w' := by
  unfold spec_MomentGood.f at hf
  split at hf
  · rename_i hx
    have hp := Classical.choose_spec hx
    rw [Option.some.inj hf] at hp
    exact hp w
  · cases hf
theorem GoodC.eq {y mo d h mi s : Int} {b : Bool} (hd : GoodC y mo d h mi s b) : spec_MomentGood.f y mo d h mi s = some b := by
  have hx : ∃ p : Bool, GoodC y mo d h mi s p := ⟨b, hd⟩
  unfold spec_MomentGood.f
  rw [dif_pos hx]
  have hp := Classical.choose_spec hx
  have e := calls_one (hp default) (hd default) (by kernel_rfl)
  injection e with e
  rw [e]
end Go.Proofs.YtemgofomhjabpaaGreatDoor.Core
namespace Go.Proofs.YtemgofomhjabpaaGreatDoor.Core
open Go.RowKit Go.Proofs.YtemgofomhjabpaaGreatDoorW.PrintWords Go.Proofs.YtemgofomhjabpaaGreatDoorW.PrintLast Go.Proofs.YtemgofomhjabpaaGreatDoorW.PrintMore
attribute [local go_sem] max2_int min2_int max_two min_two max_three min_three max_four min_four   -- for this text's walks alone
set_option linter.unusedVariables false
set_option linter.unusedSimpArgs false
noncomputable def laws_FnRange.j0 : Nat → Int → Int → Int → Bool → Int → Int → Int → Int → Int → Int → Option (Bool)
  | 0, _, _, _, _, _, _, _, _, _, _ => none
  | k + 1, x0, x1, x2, x40, x221000, x221001, x221002, x221003, x221004, x221005 => if x40 = true then (some true) else ((spec_Decimal.f k x1).bind fun t230 => (if t230.size + 1 ≤ 9223372036854775807 then ((spec_Decimal.f k x2).bind fun t231 => (if (t230 ++ (⟨#[45]⟩ : ByteArray)).size + t231.size ≤ 9223372036854775807 then ((laws_stars.f k x0 ((t230 ++ (⟨#[45]⟩ : ByteArray)) ++ t231)).bind fun t232 => ((impl_Due.f t232 x221000 x221001 x221002 x221003 x221004 0).bind fun bt233 => ((laws_moment.f x221000 x221001 x221002 x221003 x221004 0).bind fun bt235 => ((laws_numbers.f k bt235.1 bt235.2.1 bt235.2.2.1 bt235.2.2.2.1 bt235.2.2.2.2.1 bt235.2.2.2.2.2).bind fun bt241 => (if 0 ≤ x0 then (if x0 < 6 then (if bt233.2 = true then (if (rd [bt241.1, bt241.2.1, bt241.2.2.1, bt241.2.2.2.1, bt241.2.2.2.2.1, bt241.2.2.2.2.2] x0) ≥ x1 then (if (rd [bt241.1, bt241.2.1, bt241.2.2.1, bt241.2.2.2.1, bt241.2.2.2.2.1, bt241.2.2.2.2.2] x0) ≤ x2 then (if x0 = 1 then (if x0 ≤ 2 then (some (bt233.1 == true)) else (some (bt233.1 == (x221003 == 0)))) else (if x221004 = 0 then (if x0 ≤ 2 then (some (bt233.1 == true)) else (some (bt233.1 == (x221003 == 0)))) else (some (bt233.1 == false)))) else (some (bt233.1 == false))) else (some (bt233.1 == false))) else (some false)) else (none)) else (none)))))) else (none))) else (none)))
noncomputable def laws_FnRange.f (k : Nat) (a0 : Int) (a1 : Int) (a2 : Int) (a3_0 : Int) (a3_1 : Int) (a3_2 : Int) (a3_3 : Int) (a3_4 : Int) (a3_5 : Int) : Option (Bool) := if a0 < 1 then (laws_FnRange.j0 k a0 a1 a2 true a3_0 a3_1 a3_2 a3_3 a3_4 a3_5) else (if a0 > 5 then (laws_FnRange.j0 k a0 a1 a2 true a3_0 a3_1 a3_2 a3_3 a3_4 a3_5) else ((spec_Low.f a0).bind fun t221 => (if a1 < t221 then (laws_FnRange.j0 k a0 a1 a2 true a3_0 a3_1 a3_2 a3_3 a3_4 a3_5) else ((spec_High.f a0).bind fun t222 => (if a2 > t222 then (laws_FnRange.j0 k a0 a1 a2 true a3_0 a3_1 a3_2 a3_3 a3_4 a3_5) else (if a1 > a2 then (laws_FnRange.j0 k a0 a1 a2 true a3_0 a3_1 a3_2 a3_3 a3_4 a3_5) else ((laws_moment.f a3_0 a3_1 a3_2 a3_3 a3_4 a3_5).bind fun bt223 => ((spec_MomentGood.f bt223.1 bt223.2.1 bt223.2.2.1 bt223.2.2.2.1 bt223.2.2.2.2.1 bt223.2.2.2.2.2).bind fun t229 => (laws_FnRange.j0 k a0 a1 a2 (!t229) a3_0 a3_1 a3_2 a3_3 a3_4 a3_5)))))))))
def laws_FnRange.T4 : Bool × List (List Nat × List Nat) := (true, [([], []), ([], []), ([1], [1]), ([2], [2]), ([], []), ([4, 2], [4]), ([3, 5], [3, 5]), ([0, 6, 5], [0, 6]), ([], []), ([7, 8, 7], [7, 8]), ([9], [9]), ([10], [10]), ([10], [10]), ([11, 9, 0, 1, 2, 3, 4, 5, 6, 7, 8, 9, 10, 11], [11]), ([12, 13, 0, 1, 2, 3, 4, 5, 6, 7, 8, 9, 10, 11, 12, 13], [12])])
def laws_FnRange.B4 : List Nat := [0, 0, 2, 6, 0, 22, 62, 127, 0, 511, 1023, 2047, 2047, 4095, 16383]
theorem laws_FnRange.tab4 : rtab .any (opsOf Tryz.f5 4) = laws_FnRange.T4 := by kernel_rfl
theorem laws_FnRange.bits4 : waitsOk laws_FnRange.T4.2 laws_FnRange.B4 = true := by kernel_rfl
set_option maxHeartbeats 8000000 in
set_option maxRecDepth 100000 in
theorem laws_FnRange.calls (k : Nat) (a0 : Int) (a1 : Int) (a2 : Int) (a3_0 : Int) (a3_1 : Int) (a3_2 : Int) (a3_3 : Int) (a3_4 : Int) (a3_5 : Int) (r : Bool) (w : World) (h : laws_FnRange.f k a0 a1 a2 a3_0 a3_1 a3_2 a3_3 a3_4 a3_5 = some r) :
    Calls Tryz.prog 5 #[.int .i64 a0, .int .i64 a1, .int .i64 a2, .agg #[.int .i64 a3_0, .int .i64 a3_1, .int .i64 a3_2, .int .i64 a3_3, .int .i64 a3_4, .int .i64 a3_5]] w fun e w' => e = .returned (.bool r) ∧ Below w.heap.size w w' := by
  have hu26 := Tryz.underlying26
  have HB := Aside0.mk (Below.refl w.heap.size w)
  have H : (if a0 < 1 then (laws_FnRange.j0 k a0 a1 a2 true a3_0 a3_1 a3_2 a3_3 a3_4 a3_5) else (if a0 > 5 then (laws_FnRange.j0 k a0 a1 a2 true a3_0 a3_1 a3_2 a3_3 a3_4 a3_5) else ((spec_Low.f a0).bind fun t221 => (if a1 < t221 then (laws_FnRange.j0 k a0 a1 a2 true a3_0 a3_1 a3_2 a3_3 a3_4 a3_5) else ((spec_High.f a0).bind fun t222 => (if a2 > t222 then (laws_FnRange.j0 k a0 a1 a2 true a3_0 a3_1 a3_2 a3_3 a3_4 a3_5) else (if a1 > a2 then (laws_FnRange.j0 k a0 a1 a2 true a3_0 a3_1 a3_2 a3_3 a3_4 a3_5) else ((laws_moment.f a3_0 a3_1 a3_2 a3_3 a3_4 a3_5).bind fun bt223 => ((spec_MomentGood.f bt223.1 bt223.2.1 bt223.2.2.1 bt223.2.2.2.1 bt223.2.2.2.2.1 bt223.2.2.2.2.2).bind fun t229 => (laws_FnRange.j0 k a0 a1 a2 (!t229) a3_0 a3_1 a3_2 a3_3 a3_4 a3_5)))))))))) = some r := h
  clear h
  have HC5 := Aside0.mk H
  clear H
  go_enter Tryz.func5, Tryz.ntmps5
  go_upto_region 1 with (first | ((with_reducible refine gate_dst (N := 7) rfl ?_); refine box_event ?hg (N := 7) ?hd (cs := #[.int .i64 a3_0, .int .i64 a3_1, .int .i64 a3_2, .int .i64 a3_3, .int .i64 a3_4, .int .i64 a3_5]) (t := 26) ?hr ?_; (case hd => rfl); (case hg => rfl); (case hr => first | (go_simp; done) | (go_simp; rfl)); intro gb220 hg w6 hbox hb; have n0_ := Aside0.mk (below_step (by repeat (first | (with_reducible first | exact HB.out | apply below_alloc | apply pw_below_drewN | apply below_drew1) | exact HB.out)) hb); have n1_ := Aside0.mk (hbox); have n2_ := Aside0.mk ((by rw [hg]; exact (below_size (by repeat (first | (with_reducible first | exact HB.out | apply below_alloc | apply pw_below_drewN | apply below_drew1) | exact HB.out))) : w.heap.size ≤ gb220)); have n3_ := Aside0.mk ((by rw [hg]; exact (below_size (by repeat (first | (with_reducible first | exact HB.out | apply below_alloc | apply pw_below_drewN | apply below_drew1) | exact HB.out))) : w.heap.size ≤ gb220)); clear HB; have HB := n0_; have BK220 := n1_; have GW220 := n2_; have GE220 := n3_; clear n0_ n1_ n2_ n3_; clear hb hbox hg))
  (try simp only [Act.put, List.setIfInBounds_toArray, List.set_cons_zero, List.set_cons_succ])
  go_cut [40] (fun v40 wc => ∃ (kq : Nat) (x40_4 : Bool), v40 = .bool x40_4 ∧ Aside0 (laws_FnRange.j0 kq a0 a1 a2 x40_4 a3_0 a3_1 a3_2 a3_3 a3_4 a3_5 = some r) ∧ Aside0 (kq ≤ k) ∧ Aside0 (wc.heap[gb220]? = some (.cells #[.int .i64 a3_0, .int .i64 a3_1, .int .i64 a3_2, .int .i64 a3_3, .int .i64 a3_4, .int .i64 a3_5] 26 (0, 0))) ∧ Aside0 (Below w.heap.size w wc))
  case first =>
    have H := HC5.out
    clear HC5
    by_cases c7 : a0 < 1
    · rw [if_pos c7] at H
      have c7b0 : decide (a0 < 1) = true := decide_eq_true c7
      clear c7
      (first | rw [c7b0] | (simp only [i64_w, i32_w]; rw [c7b0]) | skip)
      have H' := Aside0.mk H
      clear H
      go_wp2
      go_meet
      case rel => exact ⟨_, (true), (by first | rfl | (simp; done) | (simp [*]; done)), H', ⟨by first | omega | exact Nat.le_refl _⟩, ⟨by (with_reducible repeat (first | refine blk_drewN ?_ _ | refine blk_drew ?_ | refine blk_alloc ?_ _)); exact BK220.out⟩, ⟨by repeat (first | (with_reducible first | exact HB.out | apply below_alloc | apply pw_below_drewN | apply below_drew1 | refine below_set ?_ GE220.out) | exact HB.out)⟩⟩
    · rw [if_neg c7] at H
      have c7b0 : decide (a0 < 1) = false := decide_eq_false c7
      clear c7
      (first | rw [c7b0] | (simp only [i64_w, i32_w]; rw [c7b0]) | skip)
      by_cases c8 : a0 > 5
      · rw [if_pos c8] at H
        have c8b0 : decide (5 < a0) = true := decide_eq_true c8
        clear c8
        have H' := Aside0.mk H
        clear H
        go_wp2
        go_meet
        case rel => exact ⟨_, (true), (by first | rfl | (simp; done) | (simp [*]; done)), H', ⟨by first | omega | exact Nat.le_refl _⟩, ⟨by (with_reducible repeat (first | refine blk_drewN ?_ _ | refine blk_drew ?_ | refine blk_alloc ?_ _)); exact BK220.out⟩, ⟨by repeat (first | (with_reducible first | exact HB.out | apply below_alloc | apply pw_below_drewN | apply below_drew1 | refine below_set ?_ GE220.out) | exact HB.out)⟩⟩
      · rw [if_neg c8] at H
        have c8b0 : decide (5 < a0) = false := decide_eq_false c8
        clear c8
        replace H := Option.bind_eq_some_iff.mp H
        obtain ⟨t221, A90, H⟩ := H
        replace H : (if a1 < t221 then (laws_FnRange.j0 k a0 a1 a2 true a3_0 a3_1 a3_2 a3_3 a3_4 a3_5) else ((spec_High.f a0).bind fun t222 => (if a2 > t222 then (laws_FnRange.j0 k a0 a1 a2 true a3_0 a3_1 a3_2 a3_3 a3_4 a3_5) else (if a1 > a2 then (laws_FnRange.j0 k a0 a1 a2 true a3_0 a3_1 a3_2 a3_3 a3_4 a3_5) else ((laws_moment.f a3_0 a3_1 a3_2 a3_3 a3_4 a3_5).bind fun bt223 => ((spec_MomentGood.f bt223.1 bt223.2.1 bt223.2.2.1 bt223.2.2.2.1 bt223.2.2.2.2.1 bt223.2.2.2.2.2).bind fun t229 => (laws_FnRange.j0 k a0 a1 a2 (!t229) a3_0 a3_1 a3_2 a3_3 a3_4 a3_5))))))) = some r := H
        have A9 := Aside0.mk A90
        clear A90
        by_cases c10 : a1 < t221
        · rw [if_pos c10] at H
          have c10b0 : decide (a1 < t221) = true := decide_eq_true c10
          clear c10
          have H' := Aside0.mk H
          clear H
          go_wp2_with (first | (go_at_call 20; (with_reducible refine (spec_Low.calls a0 t221 _ A9.out).mono ?_); rintro e w' ⟨rfl, ⟨nd, rfl⟩⟩))
          go_meet
          case rel => exact ⟨_, (true), (by first | rfl | (simp; done) | (simp [*]; done)), H', ⟨by first | omega | exact Nat.le_refl _⟩, ⟨by (with_reducible repeat (first | refine blk_drewN ?_ _ | refine blk_drew ?_ | refine blk_alloc ?_ _)); exact BK220.out⟩, ⟨by repeat (first | (with_reducible first | exact HB.out | apply below_alloc | apply pw_below_drewN | apply below_drew1 | refine below_set ?_ GE220.out) | exact HB.out)⟩⟩
        · rw [if_neg c10] at H
          have c10b0 : decide (a1 < t221) = false := decide_eq_false c10
          clear c10
          replace H := Option.bind_eq_some_iff.mp H
          obtain ⟨t222, A110, H⟩ := H
          replace H : (if a2 > t222 then (laws_FnRange.j0 k a0 a1 a2 true a3_0 a3_1 a3_2 a3_3 a3_4 a3_5) else (if a1 > a2 then (laws_FnRange.j0 k a0 a1 a2 true a3_0 a3_1 a3_2 a3_3 a3_4 a3_5) else ((laws_moment.f a3_0 a3_1 a3_2 a3_3 a3_4 a3_5).bind fun bt223 => ((spec_MomentGood.f bt223.1 bt223.2.1 bt223.2.2.1 bt223.2.2.2.1 bt223.2.2.2.2.1 bt223.2.2.2.2.2).bind fun t229 => (laws_FnRange.j0 k a0 a1 a2 (!t229) a3_0 a3_1 a3_2 a3_3 a3_4 a3_5))))) = some r := H
          have A11 := Aside0.mk A110
          clear A110
          by_cases c12 : a2 > t222
          · rw [if_pos c12] at H
            have c12b0 : decide (t222 < a2) = true := decide_eq_true c12
            clear c12
            have H' := Aside0.mk H
            clear H
            go_wp2_with (first | (go_at_call 20; (with_reducible refine (spec_Low.calls a0 t221 _ A9.out).mono ?_); rintro e w' ⟨rfl, ⟨nd, rfl⟩⟩) | (go_at_call 21; (with_reducible refine (spec_High.calls a0 t222 _ A11.out).mono ?_); rintro e w' ⟨rfl, ⟨nd, rfl⟩⟩))
            go_meet
            case rel => exact ⟨_, (true), (by first | rfl | (simp; done) | (simp [*]; done)), H', ⟨by first | omega | exact Nat.le_refl _⟩, ⟨by (with_reducible repeat (first | refine blk_drewN ?_ _ | refine blk_drew ?_ | refine blk_alloc ?_ _)); exact BK220.out⟩, ⟨by repeat (first | (with_reducible first | exact HB.out | apply below_alloc | apply pw_below_drewN | apply below_drew1 | refine below_set ?_ GE220.out) | exact HB.out)⟩⟩
          · rw [if_neg c12] at H
            have c12b0 : decide (t222 < a2) = false := decide_eq_false c12
            clear c12
            by_cases c13 : a1 > a2
            · rw [if_pos c13] at H
              have c13b0 : decide (a2 < a1) = true := decide_eq_true c13
              clear c13
              have H' := Aside0.mk H
              clear H
              go_wp2_with (first | (go_at_call 20; (with_reducible refine (spec_Low.calls a0 t221 _ A9.out).mono ?_); rintro e w' ⟨rfl, ⟨nd, rfl⟩⟩) | (go_at_call 21; (with_reducible refine (spec_High.calls a0 t222 _ A11.out).mono ?_); rintro e w' ⟨rfl, ⟨nd, rfl⟩⟩))
              go_meet
              case rel => exact ⟨_, (true), (by first | rfl | (simp; done) | (simp [*]; done)), H', ⟨by first | omega | exact Nat.le_refl _⟩, ⟨by (with_reducible repeat (first | refine blk_drewN ?_ _ | refine blk_drew ?_ | refine blk_alloc ?_ _)); exact BK220.out⟩, ⟨by repeat (first | (with_reducible first | exact HB.out | apply below_alloc | apply pw_below_drewN | apply below_drew1 | refine below_set ?_ GE220.out) | exact HB.out)⟩⟩
            · rw [if_neg c13] at H
              have c13b0 : decide (a2 < a1) = false := decide_eq_false c13
              clear c13
              replace H := Option.bind_eq_some_iff.mp H
              obtain ⟨⟨t223, t224, t225, t226, t227, t228⟩, A140, H⟩ := H
              replace H : ((spec_MomentGood.f t223 t224 t225 t226 t227 t228).bind fun t229 => (laws_FnRange.j0 k a0 a1 a2 (!t229) a3_0 a3_1 a3_2 a3_3 a3_4 a3_5)) = some r := H
              have A14 := Aside0.mk A140
              clear A140
              replace H := Option.bind_eq_some_iff.mp H
              obtain ⟨t229, A150, H⟩ := H
              replace H : (laws_FnRange.j0 k a0 a1 a2 (!t229) a3_0 a3_1 a3_2 a3_3 a3_4 a3_5) = some r := H
              have A15 := Aside0.mk A150
              clear A150
              have H' := Aside0.mk H
              clear H
              go_wp2_with (first | (go_at_call 20; (with_reducible refine (spec_Low.calls a0 t221 _ A9.out).mono ?_); rintro e w' ⟨rfl, ⟨nd, rfl⟩⟩) | (go_at_call 21; (with_reducible refine (spec_High.calls a0 t222 _ A11.out).mono ?_); rintro e w' ⟨rfl, ⟨nd, rfl⟩⟩; have hcz16_0 : w6.cell? ⟨gb220, 0, none⟩ = some (.int .i64 a3_0) := (blk_cell BK220.out 0).trans rfl; have hcz16_1 : w6.cell? ⟨gb220, 1, none⟩ = some (.int .i64 a3_1) := (blk_cell BK220.out 1).trans rfl; have hcz16_2 : w6.cell? ⟨gb220, 2, none⟩ = some (.int .i64 a3_2) := (blk_cell BK220.out 2).trans rfl; have hcz16_3 : w6.cell? ⟨gb220, 3, none⟩ = some (.int .i64 a3_3) := (blk_cell BK220.out 3).trans rfl; have hcz16_4 : w6.cell? ⟨gb220, 4, none⟩ = some (.int .i64 a3_4) := (blk_cell BK220.out 4).trans rfl; have hcz16_5 : w6.cell? ⟨gb220, 5, none⟩ = some (.int .i64 a3_5) := (blk_cell BK220.out 5).trans rfl; have hfz16_0 := blk_frozen BK220.out 0; have hfz16_1 := blk_frozen BK220.out 1; have hfz16_2 := blk_frozen BK220.out 2; have hfz16_3 := blk_frozen BK220.out 3; have hfz16_4 := blk_frozen BK220.out 4; have hfz16_5 := blk_frozen BK220.out 5) | (go_at_call 19; (with_reducible refine (laws_moment.calls a3_0 a3_1 a3_2 a3_3 a3_4 a3_5 t223 t224 t225 t226 t227 t228 _ A14.out).mono ?_); rintro e w17 ⟨rfl, hb⟩; have n0_ := Aside0.mk (blk_below (g := gb220) (o := .cells #[.int .i64 a3_0, .int .i64 a3_1, .int .i64 a3_2, .int .i64 a3_3, .int .i64 a3_4, .int .i64 a3_5] 26 (0, 0)) (by (with_reducible repeat (first | refine blk_drewN ?_ _ | refine blk_drew ?_ | refine blk_alloc ?_ _)); exact BK220.out) hb); have n1_ := Aside0.mk (below_step (by repeat (first | (with_reducible first | exact HB.out | apply below_alloc | apply pw_below_drewN | apply below_drew1 | refine below_set ?_ GE220.out) | exact HB.out)) hb); clear BK220; clear HB; have BK220 := n0_; have HB := n1_; clear n0_ n1_; (try clear hb); (try clear hb2); (try clear hk); (try clear hi)) | (go_at_call 22; (with_reducible refine (spec_MomentGood.calls t223 t224 t225 t226 t227 t228 t229 _ A15.out).mono ?_); rintro e w18 ⟨rfl, hb⟩; have n0_ := Aside0.mk (blk_below (g := gb220) (o := .cells #[.int .i64 a3_0, .int .i64 a3_1, .int .i64 a3_2, .int .i64 a3_3, .int .i64 a3_4, .int .i64 a3_5] 26 (0, 0)) (by (with_reducible repeat (first | refine blk_drewN ?_ _ | refine blk_drew ?_ | refine blk_alloc ?_ _)); exact BK220.out) hb); have n1_ := Aside0.mk (below_step (by repeat (first | (with_reducible first | exact HB.out | apply below_alloc | apply pw_below_drewN | apply below_drew1 | refine below_set ?_ GE220.out) | exact HB.out)) hb); clear BK220; clear HB; have BK220 := n0_; have HB := n1_; clear n0_ n1_; (try clear hb); (try clear hb2); (try clear hk); (try clear hi)))
              go_meet
              case rel => exact ⟨_, (!t229), (by first | rfl | (simp; done) | (simp [*]; done)), H', ⟨by first | omega | exact Nat.le_refl _⟩, ⟨by (with_reducible repeat (first | refine blk_drewN ?_ _ | refine blk_drew ?_ | refine blk_alloc ?_ _)); exact BK220.out⟩, ⟨by repeat (first | (with_reducible first | exact HB.out | apply below_alloc | apply pw_below_drewN | apply below_drew1 | refine below_set ?_ GE220.out) | exact HB.out)⟩⟩
  case rest =>
    clear HC5
    try clear c1
    try clear p2
    try clear c5
    try clear c7
    try clear c7b0
    try clear c8
    try clear c8b0
    try clear c10
    try clear c10b0
    try clear c12
    try clear c12b0
    try clear c13
    try clear c13b0
    try clear hcz16_0
    try clear hcz16_1
    try clear hcz16_2
    try clear hcz16_3
    try clear hcz16_4
    try clear hcz16_5
    try clear hfz16_0
    try clear hfz16_1
    try clear hfz16_2
    try clear hfz16_3
    try clear hfz16_4
    try clear hfz16_5
    obtain ⟨kq, x40_4, rfl, HA, HJ4, BK220, HB⟩ := hcut
    cases kq with
    | zero => exact absurd HA.out (by simp [laws_FnRange.j0])
    | succ kj4 =>
      have H := HA.out
      clear HA
      simp only [laws_FnRange.j0] at H
      by_cases c19 : x40_4 = true
      · subst c19
        have H1 : (some true) = some r := by rw [if_pos rfl] at H; exact H
        clear H
        have H := H1
        clear H1
        obtain rfl := Option.some.inj H
        go_wp2
        go_ret
        exact ⟨by first | rfl | (simp [errW_none, errW_some] <;> rfl) | (simp [*, errW_none, errW_some] <;> rfl), by repeat (first | (with_reducible first | exact HB.out | apply below_alloc | apply pw_below_drewN | apply below_drew1 | refine below_set ?_ GE220.out) | exact HB.out)⟩
      · replace c19 := Bool.eq_false_iff.mpr c19
        subst c19
        have H1 : ((spec_Decimal.f kj4 a1).bind fun t230 => (if t230.size + 1 ≤ 9223372036854775807 then ((spec_Decimal.f kj4 a2).bind fun t231 => (if (t230 ++ (⟨#[45]⟩ : ByteArray)).size + t231.size ≤ 9223372036854775807 then ((laws_stars.f kj4 a0 ((t230 ++ (⟨#[45]⟩ : ByteArray)) ++ t231)).bind fun t232 => ((impl_Due.f t232 a3_0 a3_1 a3_2 a3_3 a3_4 0).bind fun bt233 => ((laws_moment.f a3_0 a3_1 a3_2 a3_3 a3_4 0).bind fun bt235 => ((laws_numbers.f kj4 bt235.1 bt235.2.1 bt235.2.2.1 bt235.2.2.2.1 bt235.2.2.2.2.1 bt235.2.2.2.2.2).bind fun bt241 => (if 0 ≤ a0 then (if a0 < 6 then (if bt233.2 = true then (if (rd [bt241.1, bt241.2.1, bt241.2.2.1, bt241.2.2.2.1, bt241.2.2.2.2.1, bt241.2.2.2.2.2] a0) ≥ a1 then (if (rd [bt241.1, bt241.2.1, bt241.2.2.1, bt241.2.2.2.1, bt241.2.2.2.2.1, bt241.2.2.2.2.2] a0) ≤ a2 then (if a0 = 1 then (if a0 ≤ 2 then (some (bt233.1 == true)) else (some (bt233.1 == (a3_3 == 0)))) else (if a3_4 = 0 then (if a0 ≤ 2 then (some (bt233.1 == true)) else (some (bt233.1 == (a3_3 == 0)))) else (some (bt233.1 == false)))) else (some (bt233.1 == false))) else (some (bt233.1 == false))) else (some false)) else (none)) else (none)))))) else (none))) else (none))) = some r := by rw [if_neg (show ¬ (false = true) by decide)] at H; exact H
        clear H
        have H := H1
        clear H1
        replace H := Option.bind_eq_some_iff.mp H
        obtain ⟨t230, A200, H⟩ := H
        replace H : (if t230.size + 1 ≤ 9223372036854775807 then ((spec_Decimal.f kj4 a2).bind fun t231 => (if (t230 ++ (⟨#[45]⟩ : ByteArray)).size + t231.size ≤ 9223372036854775807 then ((laws_stars.f kj4 a0 ((t230 ++ (⟨#[45]⟩ : ByteArray)) ++ t231)).bind fun t232 => ((impl_Due.f t232 a3_0 a3_1 a3_2 a3_3 a3_4 0).bind fun bt233 => ((laws_moment.f a3_0 a3_1 a3_2 a3_3 a3_4 0).bind fun bt235 => ((laws_numbers.f kj4 bt235.1 bt235.2.1 bt235.2.2.1 bt235.2.2.2.1 bt235.2.2.2.2.1 bt235.2.2.2.2.2).bind fun bt241 => (if 0 ≤ a0 then (if a0 < 6 then (if bt233.2 = true then (if (rd [bt241.1, bt241.2.1, bt241.2.2.1, bt241.2.2.2.1, bt241.2.2.2.2.1, bt241.2.2.2.2.2] a0) ≥ a1 then (if (rd [bt241.1, bt241.2.1, bt241.2.2.1, bt241.2.2.2.1, bt241.2.2.2.2.1, bt241.2.2.2.2.2] a0) ≤ a2 then (if a0 = 1 then (if a0 ≤ 2 then (some (bt233.1 == true)) else (some (bt233.1 == (a3_3 == 0)))) else (if a3_4 = 0 then (if a0 ≤ 2 then (some (bt233.1 == true)) else (some (bt233.1 == (a3_3 == 0)))) else (some (bt233.1 == false)))) else (some (bt233.1 == false))) else (some (bt233.1 == false))) else (some false)) else (none)) else (none)))))) else (none))) else (none)) = some r := H
        have A20 := Aside0.mk A200
        clear A200
        by_cases c21 : t230.size + 1 ≤ 9223372036854775807
        · rw [if_pos c21] at H
          have c21b0 := eq_true c21
          have c21b1 : decide (t230.size + 1 ≤ 9223372036854775807) = true := decide_eq_true c21
          try have c21b2 : (9223372036854775807 < t230.size + 1) = False := eq_false (Nat.not_lt.2 c21)
          replace H := Option.bind_eq_some_iff.mp H
          obtain ⟨t231, A220, H⟩ := H
          replace H : (if (t230 ++ (⟨#[45]⟩ : ByteArray)).size + t231.size ≤ 9223372036854775807 then ((laws_stars.f kj4 a0 ((t230 ++ (⟨#[45]⟩ : ByteArray)) ++ t231)).bind fun t232 => ((impl_Due.f t232 a3_0 a3_1 a3_2 a3_3 a3_4 0).bind fun bt233 => ((laws_moment.f a3_0 a3_1 a3_2 a3_3 a3_4 0).bind fun bt235 => ((laws_numbers.f kj4 bt235.1 bt235.2.1 bt235.2.2.1 bt235.2.2.2.1 bt235.2.2.2.2.1 bt235.2.2.2.2.2).bind fun bt241 => (if 0 ≤ a0 then (if a0 < 6 then (if bt233.2 = true then (if (rd [bt241.1, bt241.2.1, bt241.2.2.1, bt241.2.2.2.1, bt241.2.2.2.2.1, bt241.2.2.2.2.2] a0) ≥ a1 then (if (rd [bt241.1, bt241.2.1, bt241.2.2.1, bt241.2.2.2.1, bt241.2.2.2.2.1, bt241.2.2.2.2.2] a0) ≤ a2 then (if a0 = 1 then (if a0 ≤ 2 then (some (bt233.1 == true)) else (some (bt233.1 == (a3_3 == 0)))) else (if a3_4 = 0 then (if a0 ≤ 2 then (some (bt233.1 == true)) else (some (bt233.1 == (a3_3 == 0)))) else (some (bt233.1 == false)))) else (some (bt233.1 == false))) else (some (bt233.1 == false))) else (some false)) else (none)) else (none)))))) else (none)) = some r := H
          have A22 := Aside0.mk A220
          clear A220
          by_cases c23 : (t230 ++ (⟨#[45]⟩ : ByteArray)).size + t231.size ≤ 9223372036854775807
          · rw [if_pos c23] at H
            have c23b0 := eq_true c23
            have c23b1 : decide ((t230 ++ (⟨#[45]⟩ : ByteArray)).size + t231.size ≤ 9223372036854775807) = true := decide_eq_true c23
            try have c23b2 : (9223372036854775807 < (t230 ++ (⟨#[45]⟩ : ByteArray)).size + t231.size) = False := eq_false (Nat.not_lt.2 c23)
            (try have c23b3 : (9223372036854775807 < (t230.size + 1) + t231.size) = False := eq_false (Nat.not_lt.2 (by have h_ := c23; (try simp only [ByteArray.size_append] at h_); exact h_)))
            replace H := Option.bind_eq_some_iff.mp H
            obtain ⟨t232, A240, H⟩ := H
            replace H : ((impl_Due.f t232 a3_0 a3_1 a3_2 a3_3 a3_4 0).bind fun bt233 => ((laws_moment.f a3_0 a3_1 a3_2 a3_3 a3_4 0).bind fun bt235 => ((laws_numbers.f kj4 bt235.1 bt235.2.1 bt235.2.2.1 bt235.2.2.2.1 bt235.2.2.2.2.1 bt235.2.2.2.2.2).bind fun bt241 => (if 0 ≤ a0 then (if a0 < 6 then (if bt233.2 = true then (if (rd [bt241.1, bt241.2.1, bt241.2.2.1, bt241.2.2.2.1, bt241.2.2.2.2.1, bt241.2.2.2.2.2] a0) ≥ a1 then (if (rd [bt241.1, bt241.2.1, bt241.2.2.1, bt241.2.2.2.1, bt241.2.2.2.2.1, bt241.2.2.2.2.2] a0) ≤ a2 then (if a0 = 1 then (if a0 ≤ 2 then (some (bt233.1 == true)) else (some (bt233.1 == (a3_3 == 0)))) else (if a3_4 = 0 then (if a0 ≤ 2 then (some (bt233.1 == true)) else (some (bt233.1 == (a3_3 == 0)))) else (some (bt233.1 == false)))) else (some (bt233.1 == false))) else (some (bt233.1 == false))) else (some false)) else (none)) else (none))))) = some r := H
            have A24 := Aside0.mk A240
            clear A240
            replace H := Option.bind_eq_some_iff.mp H
            obtain ⟨⟨t233, t234⟩, A250, H⟩ := H
            replace H : ((laws_moment.f a3_0 a3_1 a3_2 a3_3 a3_4 0).bind fun bt235 => ((laws_numbers.f kj4 bt235.1 bt235.2.1 bt235.2.2.1 bt235.2.2.2.1 bt235.2.2.2.2.1 bt235.2.2.2.2.2).bind fun bt241 => (if 0 ≤ a0 then (if a0 < 6 then (if t234 = true then (if (rd [bt241.1, bt241.2.1, bt241.2.2.1, bt241.2.2.2.1, bt241.2.2.2.2.1, bt241.2.2.2.2.2] a0) ≥ a1 then (if (rd [bt241.1, bt241.2.1, bt241.2.2.1, bt241.2.2.2.1, bt241.2.2.2.2.1, bt241.2.2.2.2.2] a0) ≤ a2 then (if a0 = 1 then (if a0 ≤ 2 then (some (t233 == true)) else (some (t233 == (a3_3 == 0)))) else (if a3_4 = 0 then (if a0 ≤ 2 then (some (t233 == true)) else (some (t233 == (a3_3 == 0)))) else (some (t233 == false)))) else (some (t233 == false))) else (some (t233 == false))) else (some false)) else (none)) else (none)))) = some r := H
            have A25 := Aside0.mk A250
            clear A250
            replace H := Option.bind_eq_some_iff.mp H
            obtain ⟨⟨t235, t236, t237, t238, t239, t240⟩, A260, H⟩ := H
            replace H : ((laws_numbers.f kj4 t235 t236 t237 t238 t239 t240).bind fun bt241 => (if 0 ≤ a0 then (if a0 < 6 then (if t234 = true then (if (rd [bt241.1, bt241.2.1, bt241.2.2.1, bt241.2.2.2.1, bt241.2.2.2.2.1, bt241.2.2.2.2.2] a0) ≥ a1 then (if (rd [bt241.1, bt241.2.1, bt241.2.2.1, bt241.2.2.2.1, bt241.2.2.2.2.1, bt241.2.2.2.2.2] a0) ≤ a2 then (if a0 = 1 then (if a0 ≤ 2 then (some (t233 == true)) else (some (t233 == (a3_3 == 0)))) else (if a3_4 = 0 then (if a0 ≤ 2 then (some (t233 == true)) else (some (t233 == (a3_3 == 0)))) else (some (t233 == false)))) else (some (t233 == false))) else (some (t233 == false))) else (some false)) else (none)) else (none))) = some r := H
            have A26 := Aside0.mk A260
            clear A260
            replace H := Option.bind_eq_some_iff.mp H
            obtain ⟨⟨t241, t242, t243, t244, t245, t246⟩, A270, H⟩ := H
            replace H : (if 0 ≤ a0 then (if a0 < 6 then (if t234 = true then (if (rd [t241, t242, t243, t244, t245, t246] a0) ≥ a1 then (if (rd [t241, t242, t243, t244, t245, t246] a0) ≤ a2 then (if a0 = 1 then (if a0 ≤ 2 then (some (t233 == true)) else (some (t233 == (a3_3 == 0)))) else (if a3_4 = 0 then (if a0 ≤ 2 then (some (t233 == true)) else (some (t233 == (a3_3 == 0)))) else (some (t233 == false)))) else (some (t233 == false))) else (some (t233 == false))) else (some false)) else (none)) else (none)) = some r := H
            have A27 := Aside0.mk A270
            clear A270
            by_cases c28 : 0 ≤ a0
            · rw [if_pos c28] at H
              have c28b0 : decide (0 ≤ a0) = true := decide_eq_true c28
              clear c28
              by_cases c29 : a0 < 6
              · rw [if_pos c29] at H
                have c29b0 : decide (a0 < 6) = true := decide_eq_true c29
                clear c29
                have hixz247_ := fun w_ : World => (index_T50 t241 t242 t243 t244 t245 t246 a0 (of_decide_eq_true (by first | (with_reducible assumption) | assumption)) (of_decide_eq_true (by first | (with_reducible assumption) | assumption)) w_ : (Instr.index 50 (.agg #[.int .i64 t241, .int .i64 t242, .int .i64 t243, .int .i64 t244, .int .i64 t245, .int .i64 t246]) (.int .i64 a0)).run Tryz.prog w_ = .ok (.int .i64 (rd [t241, t242, t243, t244, t245, t246] a0)) w_)
                by_cases c30 : t234 = true
                · subst c30
                  have H1 : (if (rd [t241, t242, t243, t244, t245, t246] a0) ≥ a1 then (if (rd [t241, t242, t243, t244, t245, t246] a0) ≤ a2 then (if a0 = 1 then (if a0 ≤ 2 then (some (t233 == true)) else (some (t233 == (a3_3 == 0)))) else (if a3_4 = 0 then (if a0 ≤ 2 then (some (t233 == true)) else (some (t233 == (a3_3 == 0)))) else (some (t233 == false)))) else (some (t233 == false))) else (some (t233 == false))) = some r := by rw [if_pos rfl] at H; exact H
                  clear H
                  have H := H1
                  clear H1
                  by_cases c31 : (rd [t241, t242, t243, t244, t245, t246] a0) ≥ a1
                  · rw [if_pos c31] at H
                    have c31b0 : decide (a1 ≤ (rd [t241, t242, t243, t244, t245, t246] a0)) = true := decide_eq_true c31
                    clear c31
                    by_cases c32 : (rd [t241, t242, t243, t244, t245, t246] a0) ≤ a2
                    · rw [if_pos c32] at H
                      have c32b0 : decide ((rd [t241, t242, t243, t244, t245, t246] a0) ≤ a2) = true := decide_eq_true c32
                      clear c32
                      by_cases c33 : a0 = 1
                      · rw [if_pos c33] at H
                        have c33b0 : (a0 == 1) = true := beq_iff_eq.mpr c33
                        have c33b1 : (a0 != 1) = false := bne_eq_false_iff_eq.mpr c33
                        clear c33
                        by_cases c34 : a0 ≤ 2
                        · rw [if_pos c34] at H
                          have c34b0 : decide (a0 ≤ 2) = true := decide_eq_true c34
                          clear c34
                          obtain rfl := Option.some.inj H
                          have hcz35_0 : wc.cell? ⟨gb220, 0, none⟩ = some (.int .i64 a3_0) := (blk_cell BK220.out 0).trans rfl
                          have hcz35_1 : wc.cell? ⟨gb220, 1, none⟩ = some (.int .i64 a3_1) := (blk_cell BK220.out 1).trans rfl
                          have hcz35_2 : wc.cell? ⟨gb220, 2, none⟩ = some (.int .i64 a3_2) := (blk_cell BK220.out 2).trans rfl
                          have hcz35_3 : wc.cell? ⟨gb220, 3, none⟩ = some (.int .i64 a3_3) := (blk_cell BK220.out 3).trans rfl
                          have hcz35_4 : wc.cell? ⟨gb220, 4, none⟩ = some (.int .i64 a3_4) := (blk_cell BK220.out 4).trans rfl
                          have hcz35_5 : wc.cell? ⟨gb220, 5, none⟩ = some (.int .i64 a3_5) := (blk_cell BK220.out 5).trans rfl
                          have hfz35_0 := blk_frozen BK220.out 0
                          have hfz35_1 := blk_frozen BK220.out 1
                          have hfz35_2 := blk_frozen BK220.out 2
                          have hfz35_3 := blk_frozen BK220.out 3
                          have hfz35_4 := blk_frozen BK220.out 4
                          have hfz35_5 := blk_frozen BK220.out 5
                          try go_wp2
                          have n0_ : Aside0 ((wc.setCell ⟨gb220, 5, none⟩ (.int .i64 0)).heap[gb220]? = some (.cells #[.int .i64 a3_0, .int .i64 a3_1, .int .i64 a3_2, .int .i64 a3_3, .int .i64 a3_4, .int .i64 0] 26 (0, 0))) := ⟨by (with_reducible repeat (first | refine blk_drewN ?_ _ | refine blk_drew ?_ | refine blk_alloc ?_ _)); refine blk_put (cs := #[.int .i64 a3_0, .int .i64 a3_1, .int .i64 a3_2, .int .i64 a3_3, .int .i64 a3_4, .int .i64 a3_5]) ?_ 5 _ rfl; (with_reducible repeat (first | refine blk_drewN ?_ _ | refine blk_drew ?_ | refine blk_alloc ?_ _)); exact BK220.out⟩
                          have n1_ : Aside0 (Below w.heap.size w (wc.setCell ⟨gb220, 5, none⟩ (.int .i64 0))) := ⟨by repeat (first | (with_reducible first | exact HB.out | apply below_alloc | apply pw_below_drewN | apply below_drew1 | refine below_set ?_ GE220.out) | exact HB.out)⟩
                          (try clear BK220)
                          (try clear HB)
                          generalize (wc.setCell ⟨gb220, 5, none⟩ (.int .i64 0)) = w36 at n0_ n1_ ⊢
                          have BK220 := n0_
                          have HB := n1_
                          clear n0_ n1_
                          have n0_ := Aside0.mk (blk_drew BK220.out)
                          have n1_ := Aside0.mk (below_drew1 HB.out)
                          clear BK220
                          clear HB
                          have BK220 := n0_
                          have HB := n1_
                          clear n0_ n1_
                          refine start_ (n := 15) (S := fun w' => w'.cell? ⟨gb220, 0, none⟩ = some (.int .i64 a3_0) ∧ w'.cell? ⟨gb220, 1, none⟩ = some (.int .i64 a3_1) ∧ w'.cell? ⟨gb220, 2, none⟩ = some (.int .i64 a3_2) ∧ w'.cell? ⟨gb220, 3, none⟩ = some (.int .i64 a3_3) ∧ w'.cell? ⟨gb220, 4, none⟩ = some (.int .i64 a3_4) ∧ w'.cell? ⟨gb220, 5, none⟩ = some (.int .i64 0)) (ds := []) #[false, false, false, false, false, false, false, false, false, false, false, false, false, false, false] (by kernel_rfl) rfl rfl ⟨(blk_cell BK220.out 0).trans rfl, (blk_cell BK220.out 1).trans rfl, (blk_cell BK220.out 2).trans rfl, (blk_cell BK220.out 3).trans rfl, (blk_cell BK220.out 4).trans rfl, (blk_cell BK220.out 5).trans rfl⟩ (fun hHeld => ?_); refine with_tabW laws_FnRange.tab4 laws_FnRange.bits4 (fun HT_ HW_ => ?_)
                          generalize w36.drew = w37 at BK220 HB hHeld ⊢
                          refine pure_ (i := 0) (N := some 43) (v := ?_) (a' := ?_) #[true, false, false, false, false, false, false, false, false, false, false, false, false, false, false] rfl rfl (any_of HT_.out (by kernel_rfl)) (fun _ _ _ h => h) (Or.inl ⟨by rfl, ?_⟩) ?_ ?_
                          rotate_left
                          · intro w'
                            go_simp
                            with_reducible rfl
                          rotate_left
                          · simp only [Act.put, List.setIfInBounds_toArray, List.set_cons_zero, List.set_cons_succ, i64_w, i32_w]
                            rfl
                          refine pure_ (i := 1) (N := some 44) (v := ?_) (a' := ?_) #[true, true, false, false, false, false, false, false, false, false, false, false, false, false, false] rfl rfl (any_of HT_.out (by kernel_rfl)) (fun _ _ _ h => h) (Or.inl ⟨by rfl, ?_⟩) ?_ ?_
                          rotate_left
                          · intro w'
                            go_simp
                            with_reducible rfl
                          rotate_left
                          · simp only [Act.put, List.setIfInBounds_toArray, List.set_cons_zero, List.set_cons_succ, i64_w, i32_w]
                            rfl
                          refine pure_ (i := 4) (N := some 47) (v := ?_) (a' := ?_) #[true, true, false, false, true, false, false, false, false, false, false, false, false, false, false] rfl rfl (any_of HT_.out (by kernel_rfl)) (fun _ _ _ h => h) (Or.inl ⟨by rfl, ?_⟩) ?_ ?_
                          rotate_left
                          · intro w'
                            go_simp
                            with_reducible rfl
                          rotate_left
                          · simp only [Act.put, List.setIfInBounds_toArray, List.set_cons_zero, List.set_cons_succ, i64_w, i32_w]
                            rfl
                          refine take_ (i := 8) (N := some 51) (v := ?_) (a' := ?_) #[true, true, false, false, true, false, false, false, true, false, false, false, false, false, false] rfl rfl (take_ofW HT_.out HW_.out (by kernel_rfl)) (fun _ _ _ h => h) (Or.inl ⟨by rfl, ?_⟩) hHeld ?_ ?_
                          rotate_left
                          · rintro w' ⟨s0, s1, s2, s3, s4, s5⟩
                            go_simp
                            with_reducible rfl
                          rotate_left
                          · simp only [Act.put, List.setIfInBounds_toArray, List.set_cons_zero, List.set_cons_succ, i64_w, i32_w]
                            rfl
                          refine one_ (i := 2) (N := some 45) #[true, true, true, false, true, false, false, false, true, false, false, false, false, false, false] rfl rfl (one_of HT_.out (by kernel_rfl)) (by decide) (fun K hK => ?_)
                          refine goes_ Tryz.func24 (by kernel_rfl) rfl #[.int .i64 a1] (by rfl) rfl rfl (by (try simp only [List.map_toArray, List.map_cons, List.map_nil]); first | done | rfl | (simp only [List.length_drop, List.length_take]; rfl)) ?_
                          with_reducible refine (spec_Decimal.calls kj4 a1 t230 _ A20.out).mono ?_
                          rintro e w' ⟨rfl, ⟨nd, rfl⟩⟩
                          refine ⟨_, rfl, ?_⟩
                          refine hK.out _ _ ⟨(blk_cell BK220.out 0).trans rfl, (blk_cell BK220.out 1).trans rfl, (blk_cell BK220.out 2).trans rfl, (blk_cell BK220.out 3).trans rfl, (blk_cell BK220.out 4).trans rfl, (blk_cell BK220.out 5).trans rfl⟩ (fun hHeld => ?_)
                          clear hK K
                          refine norm_ (a' := ?_) ?_ ?_
                          rotate_left
                          · show Act.put _ (some 45) _ = _
                            simp only [Act.put, List.setIfInBounds_toArray, List.set_cons_zero, List.set_cons_succ, i64_w, i32_w]
                            rfl
                          refine pure_ (i := 3) (N := some 46) (v := ?_) (a' := ?_) #[true, true, true, true, true, false, false, false, true, false, false, false, false, false, false] rfl rfl (any_of HT_.out (by kernel_rfl)) (fun _ _ _ h => h) (Or.inl ⟨by rfl, ?_⟩) ?_ ?_
                          rotate_left
                          · intro w'
                            go_simp
                            with_reducible rfl
                          rotate_left
                          · simp only [Act.put, List.setIfInBounds_toArray, List.set_cons_zero, List.set_cons_succ, i64_w, i32_w]
                            rfl
                          refine one_ (i := 5) (N := some 48) #[true, true, true, true, true, true, false, false, true, false, false, false, false, false, false] rfl rfl (one_of HT_.out (by kernel_rfl)) (by decide) (fun K hK => ?_)
                          refine goes_ Tryz.func24 (by kernel_rfl) rfl #[.int .i64 a2] (by rfl) rfl rfl (by (try simp only [List.map_toArray, List.map_cons, List.map_nil]); first | done | rfl | (simp only [List.length_drop, List.length_take]; rfl)) ?_
                          with_reducible refine (spec_Decimal.calls kj4 a2 t231 _ A22.out).mono ?_
                          rintro e w' ⟨rfl, ⟨nd, rfl⟩⟩
                          refine ⟨_, rfl, ?_⟩
                          refine hK.out _ _ ⟨(blk_cell BK220.out 0).trans rfl, (blk_cell BK220.out 1).trans rfl, (blk_cell BK220.out 2).trans rfl, (blk_cell BK220.out 3).trans rfl, (blk_cell BK220.out 4).trans rfl, (blk_cell BK220.out 5).trans rfl⟩ (fun hHeld => ?_)
                          clear hK K
                          refine norm_ (a' := ?_) ?_ ?_
                          rotate_left
                          · show Act.put _ (some 48) _ = _
                            simp only [Act.put, List.setIfInBounds_toArray, List.set_cons_zero, List.set_cons_succ, i64_w, i32_w]
                            rfl
                          refine pure_ (i := 6) (N := some 49) (v := ?_) (a' := ?_) #[true, true, true, true, true, true, true, false, true, false, false, false, false, false, false] rfl rfl (any_of HT_.out (by kernel_rfl)) (fun _ _ _ h => h) (Or.inl ⟨by rfl, ?_⟩) ?_ ?_
                          rotate_left
                          · intro w'
                            go_simp
                            with_reducible rfl
                          rotate_left
                          · simp only [Act.put, List.setIfInBounds_toArray, List.set_cons_zero, List.set_cons_succ, i64_w, i32_w]
                            rfl
                          refine one_ (i := 7) (N := some 50) #[true, true, true, true, true, true, true, true, true, false, false, false, false, false, false] rfl rfl (one_of HT_.out (by kernel_rfl)) (by decide) (fun K hK => ?_)
                          refine goes_ Tryz.func23 (by kernel_rfl) rfl #[.int .i64 a0, .string ((t230 ++ (⟨#[45]⟩ : ByteArray)) ++ t231)] (by rfl) rfl rfl (by (try simp only [List.map_toArray, List.map_cons, List.map_nil]); first | done | rfl | (simp only [List.length_drop, List.length_take]; rfl)) ?_
                          with_reducible refine (laws_stars.calls kj4 a0 ((t230 ++ (⟨#[45]⟩ : ByteArray)) ++ t231) t232 _ A24.out).mono ?_
                          rintro e w' ⟨rfl, ⟨nd, rfl⟩⟩
                          refine ⟨_, rfl, ?_⟩
                          refine hK.out _ _ ⟨(blk_cell BK220.out 0).trans rfl, (blk_cell BK220.out 1).trans rfl, (blk_cell BK220.out 2).trans rfl, (blk_cell BK220.out 3).trans rfl, (blk_cell BK220.out 4).trans rfl, (blk_cell BK220.out 5).trans rfl⟩ (fun hHeld => ?_)
                          clear hK K
                          refine norm_ (a' := ?_) ?_ ?_
                          rotate_left
                          · show Act.put _ (some 50) _ = _
                            simp only [Act.put, List.setIfInBounds_toArray, List.set_cons_zero, List.set_cons_succ, i64_w, i32_w]
                            rfl
                          refine one_ (i := 9) (N := some 52) #[true, true, true, true, true, true, true, true, true, true, false, false, false, false, false] rfl rfl (one_of HT_.out (by kernel_rfl)) (by decide) (fun K hK => ?_)
                          refine goes_ Tryz.func14 (by kernel_rfl) rfl #[.string t232, .agg #[.int .i64 a3_0, .int .i64 a3_1, .int .i64 a3_2, .int .i64 a3_3, .int .i64 a3_4, .int .i64 0]] (by rfl) rfl rfl (by (try simp only [List.map_toArray, List.map_cons, List.map_nil]); first | done | rfl | (simp only [List.length_drop, List.length_take]; rfl)) ?_
                          with_reducible refine (impl_Due.calls t232 a3_0 a3_1 a3_2 a3_3 a3_4 0 t233 true _ A25.out).mono ?_
                          rintro e w38 ⟨rfl, hb⟩
                          refine ⟨_, rfl, ?_⟩
                          have n0_ := Aside0.mk (blk_below (g := gb220) (o := .cells #[.int .i64 a3_0, .int .i64 a3_1, .int .i64 a3_2, .int .i64 a3_3, .int .i64 a3_4, .int .i64 0] 26 (0, 0)) (by (with_reducible repeat (first | refine blk_drewN ?_ _ | refine blk_drew ?_ | refine blk_alloc ?_ _)); exact BK220.out) hb)
                          have n1_ := Aside0.mk (below_step (by repeat (first | (with_reducible first | exact HB.out | apply below_alloc | apply pw_below_drewN | apply below_drew1 | refine below_set ?_ GE220.out) | exact HB.out)) hb)
                          clear BK220
                          clear HB
                          have BK220 := n0_
                          have HB := n1_
                          clear n0_ n1_
                          (try clear hb)
                          (try clear hb2)
                          (try clear hk)
                          (try clear hi)
                          refine hK.out _ _ ⟨(blk_cell BK220.out 0).trans rfl, (blk_cell BK220.out 1).trans rfl, (blk_cell BK220.out 2).trans rfl, (blk_cell BK220.out 3).trans rfl, (blk_cell BK220.out 4).trans rfl, (blk_cell BK220.out 5).trans rfl⟩ (fun hHeld => ?_)
                          clear hK K
                          refine norm_ (a' := ?_) ?_ ?_
                          rotate_left
                          · show Act.put _ (some 52) _ = _
                            simp only [Act.put, List.setIfInBounds_toArray, List.set_cons_zero, List.set_cons_succ, i64_w, i32_w]
                            rfl
                          refine pure_ (i := 10) (N := some 42) (v := ?_) (a' := ?_) #[true, true, true, true, true, true, true, true, true, true, true, false, false, false, false] rfl rfl (any_of HT_.out (by kernel_rfl)) (fun _ _ _ h => h) (Or.inl ⟨by rfl, ?_⟩) ?_ ?_
                          rotate_left
                          · intro w'
                            go_simp
                            with_reducible rfl
                          rotate_left
                          · simp only [Act.put, List.setIfInBounds_toArray, List.set_cons_zero, List.set_cons_succ, i64_w, i32_w]
                            rfl
                          refine pure_ (i := 11) (N := some 53) (v := ?_) (a' := ?_) #[true, true, true, true, true, true, true, true, true, true, true, true, false, false, false] rfl rfl (any_of HT_.out (by kernel_rfl)) (fun _ _ _ h => h) (Or.inl ⟨by rfl, ?_⟩) ?_ ?_
                          rotate_left
                          · intro w'
                            go_simp
                            with_reducible rfl
                          rotate_left
                          · simp only [Act.put, List.setIfInBounds_toArray, List.set_cons_zero, List.set_cons_succ, i64_w, i32_w]
                            rfl
                          refine pure_ (i := 12) (N := some 54) (v := ?_) (a' := ?_) #[true, true, true, true, true, true, true, true, true, true, true, true, true, false, false] rfl rfl (any_of HT_.out (by kernel_rfl)) (fun _ _ _ h => h) (Or.inl ⟨by rfl, ?_⟩) ?_ ?_
                          rotate_left
                          · intro w'
                            go_simp
                            with_reducible rfl
                          rotate_left
                          · simp only [Act.put, List.setIfInBounds_toArray, List.set_cons_zero, List.set_cons_succ, i64_w, i32_w]
                            rfl
                          refine pure_ (i := 13) (N := some 9) (v := ?_) (a' := ?_) #[true, true, true, true, true, true, true, true, true, true, true, true, true, true, false] rfl rfl (any_of HT_.out (by kernel_rfl)) (fun _ _ _ h => h) (Or.inl ⟨by rfl, ?_⟩) ?_ ?_
                          rotate_left
                          · intro w'
                            go_simp
                            with_reducible rfl
                          rotate_left
                          · simp only [Act.put, List.setIfInBounds_toArray, List.set_cons_zero, List.set_cons_succ, i64_w, i32_w]
                            rfl
                          refine pure_ (i := 14) (N := some 10) (v := ?_) (a' := ?_) #[true, true, true, true, true, true, true, true, true, true, true, true, true, true, true] rfl rfl (any_of HT_.out (by kernel_rfl)) (fun _ _ _ h => h) (Or.inl ⟨by rfl, ?_⟩) ?_ ?_
                          rotate_left
                          · intro w'
                            go_simp
                            with_reducible rfl
                          rotate_left
                          · simp only [Act.put, List.setIfInBounds_toArray, List.set_cons_zero, List.set_cons_succ, i64_w, i32_w]
                            rfl
                          refine done_ (done_of HT_.out (by kernel_rfl)) ?_
                          have hcz39_0 : w38.cell? ⟨gb220, 0, none⟩ = some (.int .i64 a3_0) := (blk_cell BK220.out 0).trans rfl
                          have hcz39_1 : w38.cell? ⟨gb220, 1, none⟩ = some (.int .i64 a3_1) := (blk_cell BK220.out 1).trans rfl
                          have hcz39_2 : w38.cell? ⟨gb220, 2, none⟩ = some (.int .i64 a3_2) := (blk_cell BK220.out 2).trans rfl
                          have hcz39_3 : w38.cell? ⟨gb220, 3, none⟩ = some (.int .i64 a3_3) := (blk_cell BK220.out 3).trans rfl
                          have hcz39_4 : w38.cell? ⟨gb220, 4, none⟩ = some (.int .i64 a3_4) := (blk_cell BK220.out 4).trans rfl
                          have hcz39_5 : w38.cell? ⟨gb220, 5, none⟩ = some (.int .i64 0) := (blk_cell BK220.out 5).trans rfl
                          have hfz39_0 := blk_frozen BK220.out 0
                          have hfz39_1 := blk_frozen BK220.out 1
                          have hfz39_2 := blk_frozen BK220.out 2
                          have hfz39_3 := blk_frozen BK220.out 3
                          have hfz39_4 := blk_frozen BK220.out 4
                          have hfz39_5 := blk_frozen BK220.out 5
                          try go_wp2_with (first | ((with_reducible refine gate_callee (f := 19) rfl ?_); refine goesL_ (some 56) rfl rfl Tryz.func19 (by kernel_rfl) rfl #[.agg #[.int .i64 a3_0, .int .i64 a3_1, .int .i64 a3_2, .int .i64 a3_3, .int .i64 a3_4, .int .i64 0]] rfl (by (try simp only [List.map_toArray, List.map_cons, List.map_nil]); first | done | rfl | (simp only [List.length_drop, List.length_take]; rfl)) ?_; (with_reducible refine (laws_moment.calls a3_0 a3_1 a3_2 a3_3 a3_4 0 t235 t236 t237 t238 t239 t240 _ A26.out).mono ?_); rintro e w40 ⟨rfl, hb⟩; refine ⟨_, rfl, ?_⟩; have n0_ := Aside0.mk (blk_below (g := gb220) (o := .cells #[.int .i64 a3_0, .int .i64 a3_1, .int .i64 a3_2, .int .i64 a3_3, .int .i64 a3_4, .int .i64 0] 26 (0, 0)) (by (with_reducible repeat (first | refine blk_drewN ?_ _ | refine blk_drew ?_ | refine blk_alloc ?_ _)); exact BK220.out) hb); have n1_ := Aside0.mk (below_step (by repeat (first | (with_reducible first | exact HB.out | apply below_alloc | apply pw_below_drewN | apply below_drew1 | refine below_set ?_ GE220.out) | exact HB.out)) hb); clear BK220; clear HB; have BK220 := n0_; have HB := n1_; clear n0_ n1_; (try clear hb); (try clear hb2); (try clear hk); (try clear hi)) | ((with_reducible refine gate_callee (f := 25) rfl ?_); refine goesL_ (some 57) rfl rfl Tryz.func25 (by kernel_rfl) rfl #[.agg #[.int .i64 t235, .int .i64 t236, .int .i64 t237, .int .i64 t238, .int .i64 t239, .int .i64 t240]] rfl (by (try simp only [List.map_toArray, List.map_cons, List.map_nil]); first | done | rfl | (simp only [List.length_drop, List.length_take]; rfl)) ?_; (with_reducible refine (laws_numbers.calls kj4 t235 t236 t237 t238 t239 t240 t241 t242 t243 t244 t245 t246 _ A27.out).mono ?_); rintro e w41 ⟨rfl, hb⟩; refine ⟨_, rfl, ?_⟩; have n0_ := Aside0.mk (blk_below (g := gb220) (o := .cells #[.int .i64 a3_0, .int .i64 a3_1, .int .i64 a3_2, .int .i64 a3_3, .int .i64 a3_4, .int .i64 0] 26 (0, 0)) (by (with_reducible repeat (first | refine blk_drewN ?_ _ | refine blk_drew ?_ | refine blk_alloc ?_ _)); exact BK220.out) hb); have n1_ := Aside0.mk (below_step (by repeat (first | (with_reducible first | exact HB.out | apply below_alloc | apply pw_below_drewN | apply below_drew1 | refine below_set ?_ GE220.out) | exact HB.out)) hb); clear BK220; clear HB; have BK220 := n0_; have HB := n1_; clear n0_ n1_; (try clear hb); (try clear hb2); (try clear hk); (try clear hi)))
                          go_ret
                          exact ⟨by first | rfl | (simp [errW_none, errW_some] <;> rfl) | (simp [*, errW_none, errW_some] <;> rfl), by repeat (first | (with_reducible first | exact HB.out | apply below_alloc | apply pw_below_drewN | apply below_drew1 | refine below_set ?_ GE220.out) | exact HB.out)⟩
                        · rw [if_neg c34] at H
                          have c34b0 : decide (a0 ≤ 2) = false := decide_eq_false c34
                          clear c34
                          obtain rfl := Option.some.inj H
                          have hcz42_0 : wc.cell? ⟨gb220, 0, none⟩ = some (.int .i64 a3_0) := (blk_cell BK220.out 0).trans rfl
                          have hcz42_1 : wc.cell? ⟨gb220, 1, none⟩ = some (.int .i64 a3_1) := (blk_cell BK220.out 1).trans rfl
                          have hcz42_2 : wc.cell? ⟨gb220, 2, none⟩ = some (.int .i64 a3_2) := (blk_cell BK220.out 2).trans rfl
                          have hcz42_3 : wc.cell? ⟨gb220, 3, none⟩ = some (.int .i64 a3_3) := (blk_cell BK220.out 3).trans rfl
                          have hcz42_4 : wc.cell? ⟨gb220, 4, none⟩ = some (.int .i64 a3_4) := (blk_cell BK220.out 4).trans rfl
                          have hcz42_5 : wc.cell? ⟨gb220, 5, none⟩ = some (.int .i64 a3_5) := (blk_cell BK220.out 5).trans rfl
                          have hfz42_0 := blk_frozen BK220.out 0
                          have hfz42_1 := blk_frozen BK220.out 1
                          have hfz42_2 := blk_frozen BK220.out 2
                          have hfz42_3 := blk_frozen BK220.out 3
                          have hfz42_4 := blk_frozen BK220.out 4
                          have hfz42_5 := blk_frozen BK220.out 5
                          try go_wp2
                          have n0_ : Aside0 ((wc.setCell ⟨gb220, 5, none⟩ (.int .i64 0)).heap[gb220]? = some (.cells #[.int .i64 a3_0, .int .i64 a3_1, .int .i64 a3_2, .int .i64 a3_3, .int .i64 a3_4, .int .i64 0] 26 (0, 0))) := ⟨by (with_reducible repeat (first | refine blk_drewN ?_ _ | refine blk_drew ?_ | refine blk_alloc ?_ _)); refine blk_put (cs := #[.int .i64 a3_0, .int .i64 a3_1, .int .i64 a3_2, .int .i64 a3_3, .int .i64 a3_4, .int .i64 a3_5]) ?_ 5 _ rfl; (with_reducible repeat (first | refine blk_drewN ?_ _ | refine blk_drew ?_ | refine blk_alloc ?_ _)); exact BK220.out⟩
                          have n1_ : Aside0 (Below w.heap.size w (wc.setCell ⟨gb220, 5, none⟩ (.int .i64 0))) := ⟨by repeat (first | (with_reducible first | exact HB.out | apply below_alloc | apply pw_below_drewN | apply below_drew1 | refine below_set ?_ GE220.out) | exact HB.out)⟩
                          (try clear BK220)
                          (try clear HB)
                          generalize (wc.setCell ⟨gb220, 5, none⟩ (.int .i64 0)) = w43 at n0_ n1_ ⊢
                          have BK220 := n0_
                          have HB := n1_
                          clear n0_ n1_
                          have n0_ := Aside0.mk (blk_drew BK220.out)
                          have n1_ := Aside0.mk (below_drew1 HB.out)
                          clear BK220
                          clear HB
                          have BK220 := n0_
                          have HB := n1_
                          clear n0_ n1_
                          refine start_ (n := 15) (S := fun w' => w'.cell? ⟨gb220, 0, none⟩ = some (.int .i64 a3_0) ∧ w'.cell? ⟨gb220, 1, none⟩ = some (.int .i64 a3_1) ∧ w'.cell? ⟨gb220, 2, none⟩ = some (.int .i64 a3_2) ∧ w'.cell? ⟨gb220, 3, none⟩ = some (.int .i64 a3_3) ∧ w'.cell? ⟨gb220, 4, none⟩ = some (.int .i64 a3_4) ∧ w'.cell? ⟨gb220, 5, none⟩ = some (.int .i64 0)) (ds := []) #[false, false, false, false, false, false, false, false, false, false, false, false, false, false, false] (by kernel_rfl) rfl rfl ⟨(blk_cell BK220.out 0).trans rfl, (blk_cell BK220.out 1).trans rfl, (blk_cell BK220.out 2).trans rfl, (blk_cell BK220.out 3).trans rfl, (blk_cell BK220.out 4).trans rfl, (blk_cell BK220.out 5).trans rfl⟩ (fun hHeld => ?_); refine with_tabW laws_FnRange.tab4 laws_FnRange.bits4 (fun HT_ HW_ => ?_)
                          generalize w43.drew = w44 at BK220 HB hHeld ⊢
                          refine pure_ (i := 0) (N := some 43) (v := ?_) (a' := ?_) #[true, false, false, false, false, false, false, false, false, false, false, false, false, false, false] rfl rfl (any_of HT_.out (by kernel_rfl)) (fun _ _ _ h => h) (Or.inl ⟨by rfl, ?_⟩) ?_ ?_
                          rotate_left
                          · intro w'
                            go_simp
                            with_reducible rfl
                          rotate_left
                          · simp only [Act.put, List.setIfInBounds_toArray, List.set_cons_zero, List.set_cons_succ, i64_w, i32_w]
                            rfl
                          refine pure_ (i := 1) (N := some 44) (v := ?_) (a' := ?_) #[true, true, false, false, false, false, false, false, false, false, false, false, false, false, false] rfl rfl (any_of HT_.out (by kernel_rfl)) (fun _ _ _ h => h) (Or.inl ⟨by rfl, ?_⟩) ?_ ?_
                          rotate_left
                          · intro w'
                            go_simp
                            with_reducible rfl
                          rotate_left
                          · simp only [Act.put, List.setIfInBounds_toArray, List.set_cons_zero, List.set_cons_succ, i64_w, i32_w]
                            rfl
                          refine pure_ (i := 4) (N := some 47) (v := ?_) (a' := ?_) #[true, true, false, false, true, false, false, false, false, false, false, false, false, false, false] rfl rfl (any_of HT_.out (by kernel_rfl)) (fun _ _ _ h => h) (Or.inl ⟨by rfl, ?_⟩) ?_ ?_
                          rotate_left
                          · intro w'
                            go_simp
                            with_reducible rfl
                          rotate_left
                          · simp only [Act.put, List.setIfInBounds_toArray, List.set_cons_zero, List.set_cons_succ, i64_w, i32_w]
                            rfl
                          refine take_ (i := 8) (N := some 51) (v := ?_) (a' := ?_) #[true, true, false, false, true, false, false, false, true, false, false, false, false, false, false] rfl rfl (take_ofW HT_.out HW_.out (by kernel_rfl)) (fun _ _ _ h => h) (Or.inl ⟨by rfl, ?_⟩) hHeld ?_ ?_
                          rotate_left
                          · rintro w' ⟨s0, s1, s2, s3, s4, s5⟩
                            go_simp
                            with_reducible rfl
                          rotate_left
                          · simp only [Act.put, List.setIfInBounds_toArray, List.set_cons_zero, List.set_cons_succ, i64_w, i32_w]
                            rfl
                          refine one_ (i := 2) (N := some 45) #[true, true, true, false, true, false, false, false, true, false, false, false, false, false, false] rfl rfl (one_of HT_.out (by kernel_rfl)) (by decide) (fun K hK => ?_)
                          refine goes_ Tryz.func24 (by kernel_rfl) rfl #[.int .i64 a1] (by rfl) rfl rfl (by (try simp only [List.map_toArray, List.map_cons, List.map_nil]); first | done | rfl | (simp only [List.length_drop, List.length_take]; rfl)) ?_
                          with_reducible refine (spec_Decimal.calls kj4 a1 t230 _ A20.out).mono ?_
                          rintro e w' ⟨rfl, ⟨nd, rfl⟩⟩
                          refine ⟨_, rfl, ?_⟩
                          refine hK.out _ _ ⟨(blk_cell BK220.out 0).trans rfl, (blk_cell BK220.out 1).trans rfl, (blk_cell BK220.out 2).trans rfl, (blk_cell BK220.out 3).trans rfl, (blk_cell BK220.out 4).trans rfl, (blk_cell BK220.out 5).trans rfl⟩ (fun hHeld => ?_)
                          clear hK K
                          refine norm_ (a' := ?_) ?_ ?_
                          rotate_left
                          · show Act.put _ (some 45) _ = _
                            simp only [Act.put, List.setIfInBounds_toArray, List.set_cons_zero, List.set_cons_succ, i64_w, i32_w]
                            rfl
                          refine pure_ (i := 3) (N := some 46) (v := ?_) (a' := ?_) #[true, true, true, true, true, false, false, false, true, false, false, false, false, false, false] rfl rfl (any_of HT_.out (by kernel_rfl)) (fun _ _ _ h => h) (Or.inl ⟨by rfl, ?_⟩) ?_ ?_
                          rotate_left
                          · intro w'
                            go_simp
                            with_reducible rfl
                          rotate_left
                          · simp only [Act.put, List.setIfInBounds_toArray, List.set_cons_zero, List.set_cons_succ, i64_w, i32_w]
                            rfl
                          refine one_ (i := 5) (N := some 48) #[true, true, true, true, true, true, false, false, true, false, false, false, false, false, false] rfl rfl (one_of HT_.out (by kernel_rfl)) (by decide) (fun K hK => ?_)
                          refine goes_ Tryz.func24 (by kernel_rfl) rfl #[.int .i64 a2] (by rfl) rfl rfl (by (try simp only [List.map_toArray, List.map_cons, List.map_nil]); first | done | rfl | (simp only [List.length_drop, List.length_take]; rfl)) ?_
                          with_reducible refine (spec_Decimal.calls kj4 a2 t231 _ A22.out).mono ?_
                          rintro e w' ⟨rfl, ⟨nd, rfl⟩⟩
                          refine ⟨_, rfl, ?_⟩
                          refine hK.out _ _ ⟨(blk_cell BK220.out 0).trans rfl, (blk_cell BK220.out 1).trans rfl, (blk_cell BK220.out 2).trans rfl, (blk_cell BK220.out 3).trans rfl, (blk_cell BK220.out 4).trans rfl, (blk_cell BK220.out 5).trans rfl⟩ (fun hHeld => ?_)
                          clear hK K
                          refine norm_ (a' := ?_) ?_ ?_
                          rotate_left
                          · show Act.put _ (some 48) _ = _
                            simp only [Act.put, List.setIfInBounds_toArray, List.set_cons_zero, List.set_cons_succ, i64_w, i32_w]
                            rfl
                          refine pure_ (i := 6) (N := some 49) (v := ?_) (a' := ?_) #[true, true, true, true, true, true, true, false, true, false, false, false, false, false, false] rfl rfl (any_of HT_.out (by kernel_rfl)) (fun _ _ _ h => h) (Or.inl ⟨by rfl, ?_⟩) ?_ ?_
                          rotate_left
                          · intro w'
                            go_simp
                            with_reducible rfl
                          rotate_left
                          · simp only [Act.put, List.setIfInBounds_toArray, List.set_cons_zero, List.set_cons_succ, i64_w, i32_w]
                            rfl
                          refine one_ (i := 7) (N := some 50) #[true, true, true, true, true, true, true, true, true, false, false, false, false, false, false] rfl rfl (one_of HT_.out (by kernel_rfl)) (by decide) (fun K hK => ?_)
                          refine goes_ Tryz.func23 (by kernel_rfl) rfl #[.int .i64 a0, .string ((t230 ++ (⟨#[45]⟩ : ByteArray)) ++ t231)] (by rfl) rfl rfl (by (try simp only [List.map_toArray, List.map_cons, List.map_nil]); first | done | rfl | (simp only [List.length_drop, List.length_take]; rfl)) ?_
                          with_reducible refine (laws_stars.calls kj4 a0 ((t230 ++ (⟨#[45]⟩ : ByteArray)) ++ t231) t232 _ A24.out).mono ?_
                          rintro e w' ⟨rfl, ⟨nd, rfl⟩⟩
                          refine ⟨_, rfl, ?_⟩
                          refine hK.out _ _ ⟨(blk_cell BK220.out 0).trans rfl, (blk_cell BK220.out 1).trans rfl, (blk_cell BK220.out 2).trans rfl, (blk_cell BK220.out 3).trans rfl, (blk_cell BK220.out 4).trans rfl, (blk_cell BK220.out 5).trans rfl⟩ (fun hHeld => ?_)
                          clear hK K
                          refine norm_ (a' := ?_) ?_ ?_
                          rotate_left
                          · show Act.put _ (some 50) _ = _
                            simp only [Act.put, List.setIfInBounds_toArray, List.set_cons_zero, List.set_cons_succ, i64_w, i32_w]
                            rfl
                          refine one_ (i := 9) (N := some 52) #[true, true, true, true, true, true, true, true, true, true, false, false, false, false, false] rfl rfl (one_of HT_.out (by kernel_rfl)) (by decide) (fun K hK => ?_)
                          refine goes_ Tryz.func14 (by kernel_rfl) rfl #[.string t232, .agg #[.int .i64 a3_0, .int .i64 a3_1, .int .i64 a3_2, .int .i64 a3_3, .int .i64 a3_4, .int .i64 0]] (by rfl) rfl rfl (by (try simp only [List.map_toArray, List.map_cons, List.map_nil]); first | done | rfl | (simp only [List.length_drop, List.length_take]; rfl)) ?_
                          with_reducible refine (impl_Due.calls t232 a3_0 a3_1 a3_2 a3_3 a3_4 0 t233 true _ A25.out).mono ?_
                          rintro e w45 ⟨rfl, hb⟩
                          refine ⟨_, rfl, ?_⟩
                          have n0_ := Aside0.mk (blk_below (g := gb220) (o := .cells #[.int .i64 a3_0, .int .i64 a3_1, .int .i64 a3_2, .int .i64 a3_3, .int .i64 a3_4, .int .i64 0] 26 (0, 0)) (by (with_reducible repeat (first | refine blk_drewN ?_ _ | refine blk_drew ?_ | refine blk_alloc ?_ _)); exact BK220.out) hb)
                          have n1_ := Aside0.mk (below_step (by repeat (first | (with_reducible first | exact HB.out | apply below_alloc | apply pw_below_drewN | apply below_drew1 | refine below_set ?_ GE220.out) | exact HB.out)) hb)
                          clear BK220
                          clear HB
                          have BK220 := n0_
                          have HB := n1_
                          clear n0_ n1_
                          (try clear hb)
                          (try clear hb2)
                          (try clear hk)
                          (try clear hi)
                          refine hK.out _ _ ⟨(blk_cell BK220.out 0).trans rfl, (blk_cell BK220.out 1).trans rfl, (blk_cell BK220.out 2).trans rfl, (blk_cell BK220.out 3).trans rfl, (blk_cell BK220.out 4).trans rfl, (blk_cell BK220.out 5).trans rfl⟩ (fun hHeld => ?_)
                          clear hK K
                          refine norm_ (a' := ?_) ?_ ?_
                          rotate_left
                          · show Act.put _ (some 52) _ = _
                            simp only [Act.put, List.setIfInBounds_toArray, List.set_cons_zero, List.set_cons_succ, i64_w, i32_w]
                            rfl
                          refine pure_ (i := 10) (N := some 42) (v := ?_) (a' := ?_) #[true, true, true, true, true, true, true, true, true, true, true, false, false, false, false] rfl rfl (any_of HT_.out (by kernel_rfl)) (fun _ _ _ h => h) (Or.inl ⟨by rfl, ?_⟩) ?_ ?_
                          rotate_left
                          · intro w'
                            go_simp
                            with_reducible rfl
                          rotate_left
                          · simp only [Act.put, List.setIfInBounds_toArray, List.set_cons_zero, List.set_cons_succ, i64_w, i32_w]
                            rfl
                          refine pure_ (i := 11) (N := some 53) (v := ?_) (a' := ?_) #[true, true, true, true, true, true, true, true, true, true, true, true, false, false, false] rfl rfl (any_of HT_.out (by kernel_rfl)) (fun _ _ _ h => h) (Or.inl ⟨by rfl, ?_⟩) ?_ ?_
                          rotate_left
                          · intro w'
                            go_simp
                            with_reducible rfl
                          rotate_left
                          · simp only [Act.put, List.setIfInBounds_toArray, List.set_cons_zero, List.set_cons_succ, i64_w, i32_w]
                            rfl
                          refine pure_ (i := 12) (N := some 54) (v := ?_) (a' := ?_) #[true, true, true, true, true, true, true, true, true, true, true, true, true, false, false] rfl rfl (any_of HT_.out (by kernel_rfl)) (fun _ _ _ h => h) (Or.inl ⟨by rfl, ?_⟩) ?_ ?_
                          rotate_left
                          · intro w'
                            go_simp
                            with_reducible rfl
                          rotate_left
                          · simp only [Act.put, List.setIfInBounds_toArray, List.set_cons_zero, List.set_cons_succ, i64_w, i32_w]
                            rfl
                          refine pure_ (i := 13) (N := some 9) (v := ?_) (a' := ?_) #[true, true, true, true, true, true, true, true, true, true, true, true, true, true, false] rfl rfl (any_of HT_.out (by kernel_rfl)) (fun _ _ _ h => h) (Or.inl ⟨by rfl, ?_⟩) ?_ ?_
                          rotate_left
                          · intro w'
                            go_simp
                            with_reducible rfl
                          rotate_left
                          · simp only [Act.put, List.setIfInBounds_toArray, List.set_cons_zero, List.set_cons_succ, i64_w, i32_w]
                            rfl
                          refine pure_ (i := 14) (N := some 10) (v := ?_) (a' := ?_) #[true, true, true, true, true, true, true, true, true, true, true, true, true, true, true] rfl rfl (any_of HT_.out (by kernel_rfl)) (fun _ _ _ h => h) (Or.inl ⟨by rfl, ?_⟩) ?_ ?_
                          rotate_left
                          · intro w'
                            go_simp
                            with_reducible rfl
                          rotate_left
                          · simp only [Act.put, List.setIfInBounds_toArray, List.set_cons_zero, List.set_cons_succ, i64_w, i32_w]
                            rfl
                          refine done_ (done_of HT_.out (by kernel_rfl)) ?_
                          have hcz46_0 : w45.cell? ⟨gb220, 0, none⟩ = some (.int .i64 a3_0) := (blk_cell BK220.out 0).trans rfl
                          have hcz46_1 : w45.cell? ⟨gb220, 1, none⟩ = some (.int .i64 a3_1) := (blk_cell BK220.out 1).trans rfl
                          have hcz46_2 : w45.cell? ⟨gb220, 2, none⟩ = some (.int .i64 a3_2) := (blk_cell BK220.out 2).trans rfl
                          have hcz46_3 : w45.cell? ⟨gb220, 3, none⟩ = some (.int .i64 a3_3) := (blk_cell BK220.out 3).trans rfl
                          have hcz46_4 : w45.cell? ⟨gb220, 4, none⟩ = some (.int .i64 a3_4) := (blk_cell BK220.out 4).trans rfl
                          have hcz46_5 : w45.cell? ⟨gb220, 5, none⟩ = some (.int .i64 0) := (blk_cell BK220.out 5).trans rfl
                          have hfz46_0 := blk_frozen BK220.out 0
                          have hfz46_1 := blk_frozen BK220.out 1
                          have hfz46_2 := blk_frozen BK220.out 2
                          have hfz46_3 := blk_frozen BK220.out 3
                          have hfz46_4 := blk_frozen BK220.out 4
                          have hfz46_5 := blk_frozen BK220.out 5
                          try go_wp2_with (first | ((with_reducible refine gate_callee (f := 19) rfl ?_); refine goesL_ (some 56) rfl rfl Tryz.func19 (by kernel_rfl) rfl #[.agg #[.int .i64 a3_0, .int .i64 a3_1, .int .i64 a3_2, .int .i64 a3_3, .int .i64 a3_4, .int .i64 0]] rfl (by (try simp only [List.map_toArray, List.map_cons, List.map_nil]); first | done | rfl | (simp only [List.length_drop, List.length_take]; rfl)) ?_; (with_reducible refine (laws_moment.calls a3_0 a3_1 a3_2 a3_3 a3_4 0 t235 t236 t237 t238 t239 t240 _ A26.out).mono ?_); rintro e w47 ⟨rfl, hb⟩; refine ⟨_, rfl, ?_⟩; have n0_ := Aside0.mk (blk_below (g := gb220) (o := .cells #[.int .i64 a3_0, .int .i64 a3_1, .int .i64 a3_2, .int .i64 a3_3, .int .i64 a3_4, .int .i64 0] 26 (0, 0)) (by (with_reducible repeat (first | refine blk_drewN ?_ _ | refine blk_drew ?_ | refine blk_alloc ?_ _)); exact BK220.out) hb); have n1_ := Aside0.mk (below_step (by repeat (first | (with_reducible first | exact HB.out | apply below_alloc | apply pw_below_drewN | apply below_drew1 | refine below_set ?_ GE220.out) | exact HB.out)) hb); clear BK220; clear HB; have BK220 := n0_; have HB := n1_; clear n0_ n1_; (try clear hb); (try clear hb2); (try clear hk); (try clear hi)) | ((with_reducible refine gate_callee (f := 25) rfl ?_); refine goesL_ (some 57) rfl rfl Tryz.func25 (by kernel_rfl) rfl #[.agg #[.int .i64 t235, .int .i64 t236, .int .i64 t237, .int .i64 t238, .int .i64 t239, .int .i64 t240]] rfl (by (try simp only [List.map_toArray, List.map_cons, List.map_nil]); first | done | rfl | (simp only [List.length_drop, List.length_take]; rfl)) ?_; (with_reducible refine (laws_numbers.calls kj4 t235 t236 t237 t238 t239 t240 t241 t242 t243 t244 t245 t246 _ A27.out).mono ?_); rintro e w48 ⟨rfl, hb⟩; refine ⟨_, rfl, ?_⟩; have n0_ := Aside0.mk (blk_below (g := gb220) (o := .cells #[.int .i64 a3_0, .int .i64 a3_1, .int .i64 a3_2, .int .i64 a3_3, .int .i64 a3_4, .int .i64 0] 26 (0, 0)) (by (with_reducible repeat (first | refine blk_drewN ?_ _ | refine blk_drew ?_ | refine blk_alloc ?_ _)); exact BK220.out) hb); have n1_ := Aside0.mk (below_step (by repeat (first | (with_reducible first | exact HB.out | apply below_alloc | apply pw_below_drewN | apply below_drew1 | refine below_set ?_ GE220.out) | exact HB.out)) hb); clear BK220; clear HB; have BK220 := n0_; have HB := n1_; clear n0_ n1_; (try clear hb); (try clear hb2); (try clear hk); (try clear hi); have hcz49_0 : w48.cell? ⟨gb220, 0, none⟩ = some (.int .i64 a3_0) := (blk_cell BK220.out 0).trans rfl; have hcz49_1 : w48.cell? ⟨gb220, 1, none⟩ = some (.int .i64 a3_1) := (blk_cell BK220.out 1).trans rfl; have hcz49_2 : w48.cell? ⟨gb220, 2, none⟩ = some (.int .i64 a3_2) := (blk_cell BK220.out 2).trans rfl; have hcz49_3 : w48.cell? ⟨gb220, 3, none⟩ = some (.int .i64 a3_3) := (blk_cell BK220.out 3).trans rfl; have hcz49_4 : w48.cell? ⟨gb220, 4, none⟩ = some (.int .i64 a3_4) := (blk_cell BK220.out 4).trans rfl; have hcz49_5 : w48.cell? ⟨gb220, 5, none⟩ = some (.int .i64 0) := (blk_cell BK220.out 5).trans rfl; have hfz49_0 := blk_frozen BK220.out 0; have hfz49_1 := blk_frozen BK220.out 1; have hfz49_2 := blk_frozen BK220.out 2; have hfz49_3 := blk_frozen BK220.out 3; have hfz49_4 := blk_frozen BK220.out 4; have hfz49_5 := blk_frozen BK220.out 5))
                          go_ret
                          exact ⟨by first | rfl | (simp [errW_none, errW_some] <;> rfl) | (simp [*, errW_none, errW_some] <;> rfl), by repeat (first | (with_reducible first | exact HB.out | apply below_alloc | apply pw_below_drewN | apply below_drew1 | refine below_set ?_ GE220.out) | exact HB.out)⟩
                      · rw [if_neg c33] at H
                        have c33b0 : (a0 == 1) = false := beq_eq_false_iff_ne.mpr c33
                        have c33b1 : (a0 != 1) = true := bne_iff_ne.mpr c33
                        by_cases c50 : a3_4 = 0
                        · rw [if_pos c50] at H
                          have c50b0 : (a3_4 == 0) = true := beq_iff_eq.mpr c50
                          have c50b1 : (a3_4 != 0) = false := bne_eq_false_iff_eq.mpr c50
                          clear c50
                          by_cases c51 : a0 ≤ 2
                          · rw [if_pos c51] at H
                            have c51b0 : decide (a0 ≤ 2) = true := decide_eq_true c51
                            clear c51
                            obtain rfl := Option.some.inj H
                            have hcz52_0 : wc.cell? ⟨gb220, 0, none⟩ = some (.int .i64 a3_0) := (blk_cell BK220.out 0).trans rfl
                            have hcz52_1 : wc.cell? ⟨gb220, 1, none⟩ = some (.int .i64 a3_1) := (blk_cell BK220.out 1).trans rfl
                            have hcz52_2 : wc.cell? ⟨gb220, 2, none⟩ = some (.int .i64 a3_2) := (blk_cell BK220.out 2).trans rfl
                            have hcz52_3 : wc.cell? ⟨gb220, 3, none⟩ = some (.int .i64 a3_3) := (blk_cell BK220.out 3).trans rfl
                            have hcz52_4 : wc.cell? ⟨gb220, 4, none⟩ = some (.int .i64 a3_4) := (blk_cell BK220.out 4).trans rfl
                            have hcz52_5 : wc.cell? ⟨gb220, 5, none⟩ = some (.int .i64 a3_5) := (blk_cell BK220.out 5).trans rfl
                            have hfz52_0 := blk_frozen BK220.out 0
                            have hfz52_1 := blk_frozen BK220.out 1
                            have hfz52_2 := blk_frozen BK220.out 2
                            have hfz52_3 := blk_frozen BK220.out 3
                            have hfz52_4 := blk_frozen BK220.out 4
                            have hfz52_5 := blk_frozen BK220.out 5
                            try go_wp2
                            have n0_ : Aside0 ((wc.setCell ⟨gb220, 5, none⟩ (.int .i64 0)).heap[gb220]? = some (.cells #[.int .i64 a3_0, .int .i64 a3_1, .int .i64 a3_2, .int .i64 a3_3, .int .i64 a3_4, .int .i64 0] 26 (0, 0))) := ⟨by (with_reducible repeat (first | refine blk_drewN ?_ _ | refine blk_drew ?_ | refine blk_alloc ?_ _)); refine blk_put (cs := #[.int .i64 a3_0, .int .i64 a3_1, .int .i64 a3_2, .int .i64 a3_3, .int .i64 a3_4, .int .i64 a3_5]) ?_ 5 _ rfl; (with_reducible repeat (first | refine blk_drewN ?_ _ | refine blk_drew ?_ | refine blk_alloc ?_ _)); exact BK220.out⟩
                            have n1_ : Aside0 (Below w.heap.size w (wc.setCell ⟨gb220, 5, none⟩ (.int .i64 0))) := ⟨by repeat (first | (with_reducible first | exact HB.out | apply below_alloc | apply pw_below_drewN | apply below_drew1 | refine below_set ?_ GE220.out) | exact HB.out)⟩
                            (try clear BK220)
                            (try clear HB)
                            generalize (wc.setCell ⟨gb220, 5, none⟩ (.int .i64 0)) = w53 at n0_ n1_ ⊢
                            have BK220 := n0_
                            have HB := n1_
                            clear n0_ n1_
                            have n0_ := Aside0.mk (blk_drew BK220.out)
                            have n1_ := Aside0.mk (below_drew1 HB.out)
                            clear BK220
                            clear HB
                            have BK220 := n0_
                            have HB := n1_
                            clear n0_ n1_
                            refine start_ (n := 15) (S := fun w' => w'.cell? ⟨gb220, 0, none⟩ = some (.int .i64 a3_0) ∧ w'.cell? ⟨gb220, 1, none⟩ = some (.int .i64 a3_1) ∧ w'.cell? ⟨gb220, 2, none⟩ = some (.int .i64 a3_2) ∧ w'.cell? ⟨gb220, 3, none⟩ = some (.int .i64 a3_3) ∧ w'.cell? ⟨gb220, 4, none⟩ = some (.int .i64 a3_4) ∧ w'.cell? ⟨gb220, 5, none⟩ = some (.int .i64 0)) (ds := []) #[false, false, false, false, false, false, false, false, false, false, false, false, false, false, false] (by kernel_rfl) rfl rfl ⟨(blk_cell BK220.out 0).trans rfl, (blk_cell BK220.out 1).trans rfl, (blk_cell BK220.out 2).trans rfl, (blk_cell BK220.out 3).trans rfl, (blk_cell BK220.out 4).trans rfl, (blk_cell BK220.out 5).trans rfl⟩ (fun hHeld => ?_); refine with_tabW laws_FnRange.tab4 laws_FnRange.bits4 (fun HT_ HW_ => ?_)
                            generalize w53.drew = w54 at BK220 HB hHeld ⊢
                            refine pure_ (i := 0) (N := some 43) (v := ?_) (a' := ?_) #[true, false, false, false, false, false, false, false, false, false, false, false, false, false, false] rfl rfl (any_of HT_.out (by kernel_rfl)) (fun _ _ _ h => h) (Or.inl ⟨by rfl, ?_⟩) ?_ ?_
                            rotate_left
                            · intro w'
                              go_simp
                              with_reducible rfl
                            rotate_left
                            · simp only [Act.put, List.setIfInBounds_toArray, List.set_cons_zero, List.set_cons_succ, i64_w, i32_w]
                              rfl
                            refine pure_ (i := 1) (N := some 44) (v := ?_) (a' := ?_) #[true, true, false, false, false, false, false, false, false, false, false, false, false, false, false] rfl rfl (any_of HT_.out (by kernel_rfl)) (fun _ _ _ h => h) (Or.inl ⟨by rfl, ?_⟩) ?_ ?_
                            rotate_left
                            · intro w'
                              go_simp
                              with_reducible rfl
                            rotate_left
                            · simp only [Act.put, List.setIfInBounds_toArray, List.set_cons_zero, List.set_cons_succ, i64_w, i32_w]
                              rfl
                            refine pure_ (i := 4) (N := some 47) (v := ?_) (a' := ?_) #[true, true, false, false, true, false, false, false, false, false, false, false, false, false, false] rfl rfl (any_of HT_.out (by kernel_rfl)) (fun _ _ _ h => h) (Or.inl ⟨by rfl, ?_⟩) ?_ ?_
                            rotate_left
                            · intro w'
                              go_simp
                              with_reducible rfl
                            rotate_left
                            · simp only [Act.put, List.setIfInBounds_toArray, List.set_cons_zero, List.set_cons_succ, i64_w, i32_w]
                              rfl
                            refine take_ (i := 8) (N := some 51) (v := ?_) (a' := ?_) #[true, true, false, false, true, false, false, false, true, false, false, false, false, false, false] rfl rfl (take_ofW HT_.out HW_.out (by kernel_rfl)) (fun _ _ _ h => h) (Or.inl ⟨by rfl, ?_⟩) hHeld ?_ ?_
                            rotate_left
                            · rintro w' ⟨s0, s1, s2, s3, s4, s5⟩
                              go_simp
                              with_reducible rfl
                            rotate_left
                            · simp only [Act.put, List.setIfInBounds_toArray, List.set_cons_zero, List.set_cons_succ, i64_w, i32_w]
                              rfl
                            refine one_ (i := 2) (N := some 45) #[true, true, true, false, true, false, false, false, true, false, false, false, false, false, false] rfl rfl (one_of HT_.out (by kernel_rfl)) (by decide) (fun K hK => ?_)
                            refine goes_ Tryz.func24 (by kernel_rfl) rfl #[.int .i64 a1] (by rfl) rfl rfl (by (try simp only [List.map_toArray, List.map_cons, List.map_nil]); first | done | rfl | (simp only [List.length_drop, List.length_take]; rfl)) ?_
                            with_reducible refine (spec_Decimal.calls kj4 a1 t230 _ A20.out).mono ?_
                            rintro e w' ⟨rfl, ⟨nd, rfl⟩⟩
                            refine ⟨_, rfl, ?_⟩
                            refine hK.out _ _ ⟨(blk_cell BK220.out 0).trans rfl, (blk_cell BK220.out 1).trans rfl, (blk_cell BK220.out 2).trans rfl, (blk_cell BK220.out 3).trans rfl, (blk_cell BK220.out 4).trans rfl, (blk_cell BK220.out 5).trans rfl⟩ (fun hHeld => ?_)
                            clear hK K
                            refine norm_ (a' := ?_) ?_ ?_
                            rotate_left
                            · show Act.put _ (some 45) _ = _
                              simp only [Act.put, List.setIfInBounds_toArray, List.set_cons_zero, List.set_cons_succ, i64_w, i32_w]
                              rfl
                            refine pure_ (i := 3) (N := some 46) (v := ?_) (a' := ?_) #[true, true, true, true, true, false, false, false, true, false, false, false, false, false, false] rfl rfl (any_of HT_.out (by kernel_rfl)) (fun _ _ _ h => h) (Or.inl ⟨by rfl, ?_⟩) ?_ ?_
                            rotate_left
                            · intro w'
                              go_simp
                              with_reducible rfl
                            rotate_left
                            · simp only [Act.put, List.setIfInBounds_toArray, List.set_cons_zero, List.set_cons_succ, i64_w, i32_w]
                              rfl
                            refine one_ (i := 5) (N := some 48) #[true, true, true, true, true, true, false, false, true, false, false, false, false, false, false] rfl rfl (one_of HT_.out (by kernel_rfl)) (by decide) (fun K hK => ?_)
                            refine goes_ Tryz.func24 (by kernel_rfl) rfl #[.int .i64 a2] (by rfl) rfl rfl (by (try simp only [List.map_toArray, List.map_cons, List.map_nil]); first | done | rfl | (simp only [List.length_drop, List.length_take]; rfl)) ?_
                            with_reducible refine (spec_Decimal.calls kj4 a2 t231 _ A22.out).mono ?_
                            rintro e w' ⟨rfl, ⟨nd, rfl⟩⟩
                            refine ⟨_, rfl, ?_⟩
                            refine hK.out _ _ ⟨(blk_cell BK220.out 0).trans rfl, (blk_cell BK220.out 1).trans rfl, (blk_cell BK220.out 2).trans rfl, (blk_cell BK220.out 3).trans rfl, (blk_cell BK220.out 4).trans rfl, (blk_cell BK220.out 5).trans rfl⟩ (fun hHeld => ?_)
                            clear hK K
                            refine norm_ (a' := ?_) ?_ ?_
                            rotate_left
                            · show Act.put _ (some 48) _ = _
                              simp only [Act.put, List.setIfInBounds_toArray, List.set_cons_zero, List.set_cons_succ, i64_w, i32_w]
                              rfl
                            refine pure_ (i := 6) (N := some 49) (v := ?_) (a' := ?_) #[true, true, true, true, true, true, true, false, true, false, false, false, false, false, false] rfl rfl (any_of HT_.out (by kernel_rfl)) (fun _ _ _ h => h) (Or.inl ⟨by rfl, ?_⟩) ?_ ?_
                            rotate_left
                            · intro w'
                              go_simp
                              with_reducible rfl
                            rotate_left
                            · simp only [Act.put, List.setIfInBounds_toArray, List.set_cons_zero, List.set_cons_succ, i64_w, i32_w]
                              rfl
                            refine one_ (i := 7) (N := some 50) #[true, true, true, true, true, true, true, true, true, false, false, false, false, false, false] rfl rfl (one_of HT_.out (by kernel_rfl)) (by decide) (fun K hK => ?_)
                            refine goes_ Tryz.func23 (by kernel_rfl) rfl #[.int .i64 a0, .string ((t230 ++ (⟨#[45]⟩ : ByteArray)) ++ t231)] (by rfl) rfl rfl (by (try simp only [List.map_toArray, List.map_cons, List.map_nil]); first | done | rfl | (simp only [List.length_drop, List.length_take]; rfl)) ?_
                            with_reducible refine (laws_stars.calls kj4 a0 ((t230 ++ (⟨#[45]⟩ : ByteArray)) ++ t231) t232 _ A24.out).mono ?_
                            rintro e w' ⟨rfl, ⟨nd, rfl⟩⟩
                            refine ⟨_, rfl, ?_⟩
                            refine hK.out _ _ ⟨(blk_cell BK220.out 0).trans rfl, (blk_cell BK220.out 1).trans rfl, (blk_cell BK220.out 2).trans rfl, (blk_cell BK220.out 3).trans rfl, (blk_cell BK220.out 4).trans rfl, (blk_cell BK220.out 5).trans rfl⟩ (fun hHeld => ?_)
                            clear hK K
                            refine norm_ (a' := ?_) ?_ ?_
                            rotate_left
                            · show Act.put _ (some 50) _ = _
                              simp only [Act.put, List.setIfInBounds_toArray, List.set_cons_zero, List.set_cons_succ, i64_w, i32_w]
                              rfl
                            refine one_ (i := 9) (N := some 52) #[true, true, true, true, true, true, true, true, true, true, false, false, false, false, false] rfl rfl (one_of HT_.out (by kernel_rfl)) (by decide) (fun K hK => ?_)
                            refine goes_ Tryz.func14 (by kernel_rfl) rfl #[.string t232, .agg #[.int .i64 a3_0, .int .i64 a3_1, .int .i64 a3_2, .int .i64 a3_3, .int .i64 a3_4, .int .i64 0]] (by rfl) rfl rfl (by (try simp only [List.map_toArray, List.map_cons, List.map_nil]); first | done | rfl | (simp only [List.length_drop, List.length_take]; rfl)) ?_
                            with_reducible refine (impl_Due.calls t232 a3_0 a3_1 a3_2 a3_3 a3_4 0 t233 true _ A25.out).mono ?_
                            rintro e w55 ⟨rfl, hb⟩
                            refine ⟨_, rfl, ?_⟩
                            have n0_ := Aside0.mk (blk_below (g := gb220) (o := .cells #[.int .i64 a3_0, .int .i64 a3_1, .int .i64 a3_2, .int .i64 a3_3, .int .i64 a3_4, .int .i64 0] 26 (0, 0)) (by (with_reducible repeat (first | refine blk_drewN ?_ _ | refine blk_drew ?_ | refine blk_alloc ?_ _)); exact BK220.out) hb)
                            have n1_ := Aside0.mk (below_step (by repeat (first | (with_reducible first | exact HB.out | apply below_alloc | apply pw_below_drewN | apply below_drew1 | refine below_set ?_ GE220.out) | exact HB.out)) hb)
                            clear BK220
                            clear HB
                            have BK220 := n0_
                            have HB := n1_
                            clear n0_ n1_
                            (try clear hb)
                            (try clear hb2)
                            (try clear hk)
                            (try clear hi)
                            refine hK.out _ _ ⟨(blk_cell BK220.out 0).trans rfl, (blk_cell BK220.out 1).trans rfl, (blk_cell BK220.out 2).trans rfl, (blk_cell BK220.out 3).trans rfl, (blk_cell BK220.out 4).trans rfl, (blk_cell BK220.out 5).trans rfl⟩ (fun hHeld => ?_)
                            clear hK K
                            refine norm_ (a' := ?_) ?_ ?_
                            rotate_left
                            · show Act.put _ (some 52) _ = _
                              simp only [Act.put, List.setIfInBounds_toArray, List.set_cons_zero, List.set_cons_succ, i64_w, i32_w]
                              rfl
                            refine pure_ (i := 10) (N := some 42) (v := ?_) (a' := ?_) #[true, true, true, true, true, true, true, true, true, true, true, false, false, false, false] rfl rfl (any_of HT_.out (by kernel_rfl)) (fun _ _ _ h => h) (Or.inl ⟨by rfl, ?_⟩) ?_ ?_
                            rotate_left
                            · intro w'
                              go_simp
                              with_reducible rfl
                            rotate_left
                            · simp only [Act.put, List.setIfInBounds_toArray, List.set_cons_zero, List.set_cons_succ, i64_w, i32_w]
                              rfl
                            refine pure_ (i := 11) (N := some 53) (v := ?_) (a' := ?_) #[true, true, true, true, true, true, true, true, true, true, true, true, false, false, false] rfl rfl (any_of HT_.out (by kernel_rfl)) (fun _ _ _ h => h) (Or.inl ⟨by rfl, ?_⟩) ?_ ?_
                            rotate_left
                            · intro w'
                              go_simp
                              with_reducible rfl
                            rotate_left
                            · simp only [Act.put, List.setIfInBounds_toArray, List.set_cons_zero, List.set_cons_succ, i64_w, i32_w]
                              rfl
                            refine pure_ (i := 12) (N := some 54) (v := ?_) (a' := ?_) #[true, true, true, true, true, true, true, true, true, true, true, true, true, false, false] rfl rfl (any_of HT_.out (by kernel_rfl)) (fun _ _ _ h => h) (Or.inl ⟨by rfl, ?_⟩) ?_ ?_
                            rotate_left
                            · intro w'
                              go_simp
                              with_reducible rfl
                            rotate_left
                            · simp only [Act.put, List.setIfInBounds_toArray, List.set_cons_zero, List.set_cons_succ, i64_w, i32_w]
                              rfl
                            refine pure_ (i := 13) (N := some 9) (v := ?_) (a' := ?_) #[true, true, true, true, true, true, true, true, true, true, true, true, true, true, false] rfl rfl (any_of HT_.out (by kernel_rfl)) (fun _ _ _ h => h) (Or.inl ⟨by rfl, ?_⟩) ?_ ?_
                            rotate_left
                            · intro w'
                              go_simp
                              with_reducible rfl
                            rotate_left
                            · simp only [Act.put, List.setIfInBounds_toArray, List.set_cons_zero, List.set_cons_succ, i64_w, i32_w]
                              rfl
                            refine pure_ (i := 14) (N := some 10) (v := ?_) (a' := ?_) #[true, true, true, true, true, true, true, true, true, true, true, true, true, true, true] rfl rfl (any_of HT_.out (by kernel_rfl)) (fun _ _ _ h => h) (Or.inl ⟨by rfl, ?_⟩) ?_ ?_
                            rotate_left
                            · intro w'
                              go_simp
                              with_reducible rfl
                            rotate_left
                            · simp only [Act.put, List.setIfInBounds_toArray, List.set_cons_zero, List.set_cons_succ, i64_w, i32_w]
                              rfl
                            refine done_ (done_of HT_.out (by kernel_rfl)) ?_
                            have hcz56_0 : w55.cell? ⟨gb220, 0, none⟩ = some (.int .i64 a3_0) := (blk_cell BK220.out 0).trans rfl
                            have hcz56_1 : w55.cell? ⟨gb220, 1, none⟩ = some (.int .i64 a3_1) := (blk_cell BK220.out 1).trans rfl
                            have hcz56_2 : w55.cell? ⟨gb220, 2, none⟩ = some (.int .i64 a3_2) := (blk_cell BK220.out 2).trans rfl
                            have hcz56_3 : w55.cell? ⟨gb220, 3, none⟩ = some (.int .i64 a3_3) := (blk_cell BK220.out 3).trans rfl
                            have hcz56_4 : w55.cell? ⟨gb220, 4, none⟩ = some (.int .i64 a3_4) := (blk_cell BK220.out 4).trans rfl
                            have hcz56_5 : w55.cell? ⟨gb220, 5, none⟩ = some (.int .i64 0) := (blk_cell BK220.out 5).trans rfl
                            have hfz56_0 := blk_frozen BK220.out 0
                            have hfz56_1 := blk_frozen BK220.out 1
                            have hfz56_2 := blk_frozen BK220.out 2
                            have hfz56_3 := blk_frozen BK220.out 3
                            have hfz56_4 := blk_frozen BK220.out 4
                            have hfz56_5 := blk_frozen BK220.out 5
                            try go_wp2_with (first | ((with_reducible refine gate_callee (f := 19) rfl ?_); refine goesL_ (some 56) rfl rfl Tryz.func19 (by kernel_rfl) rfl #[.agg #[.int .i64 a3_0, .int .i64 a3_1, .int .i64 a3_2, .int .i64 a3_3, .int .i64 a3_4, .int .i64 0]] rfl (by (try simp only [List.map_toArray, List.map_cons, List.map_nil]); first | done | rfl | (simp only [List.length_drop, List.length_take]; rfl)) ?_; (with_reducible refine (laws_moment.calls a3_0 a3_1 a3_2 a3_3 a3_4 0 t235 t236 t237 t238 t239 t240 _ A26.out).mono ?_); rintro e w57 ⟨rfl, hb⟩; refine ⟨_, rfl, ?_⟩; have n0_ := Aside0.mk (blk_below (g := gb220) (o := .cells #[.int .i64 a3_0, .int .i64 a3_1, .int .i64 a3_2, .int .i64 a3_3, .int .i64 a3_4, .int .i64 0] 26 (0, 0)) (by (with_reducible repeat (first | refine blk_drewN ?_ _ | refine blk_drew ?_ | refine blk_alloc ?_ _)); exact BK220.out) hb); have n1_ := Aside0.mk (below_step (by repeat (first | (with_reducible first | exact HB.out | apply below_alloc | apply pw_below_drewN | apply below_drew1 | refine below_set ?_ GE220.out) | exact HB.out)) hb); clear BK220; clear HB; have BK220 := n0_; have HB := n1_; clear n0_ n1_; (try clear hb); (try clear hb2); (try clear hk); (try clear hi)) | ((with_reducible refine gate_callee (f := 25) rfl ?_); refine goesL_ (some 57) rfl rfl Tryz.func25 (by kernel_rfl) rfl #[.agg #[.int .i64 t235, .int .i64 t236, .int .i64 t237, .int .i64 t238, .int .i64 t239, .int .i64 t240]] rfl (by (try simp only [List.map_toArray, List.map_cons, List.map_nil]); first | done | rfl | (simp only [List.length_drop, List.length_take]; rfl)) ?_; (with_reducible refine (laws_numbers.calls kj4 t235 t236 t237 t238 t239 t240 t241 t242 t243 t244 t245 t246 _ A27.out).mono ?_); rintro e w58 ⟨rfl, hb⟩; refine ⟨_, rfl, ?_⟩; have n0_ := Aside0.mk (blk_below (g := gb220) (o := .cells #[.int .i64 a3_0, .int .i64 a3_1, .int .i64 a3_2, .int .i64 a3_3, .int .i64 a3_4, .int .i64 0] 26 (0, 0)) (by (with_reducible repeat (first | refine blk_drewN ?_ _ | refine blk_drew ?_ | refine blk_alloc ?_ _)); exact BK220.out) hb); have n1_ := Aside0.mk (below_step (by repeat (first | (with_reducible first | exact HB.out | apply below_alloc | apply pw_below_drewN | apply below_drew1 | refine below_set ?_ GE220.out) | exact HB.out)) hb); clear BK220; clear HB; have BK220 := n0_; have HB := n1_; clear n0_ n1_; (try clear hb); (try clear hb2); (try clear hk); (try clear hi); have hcz59_0 : w58.cell? ⟨gb220, 0, none⟩ = some (.int .i64 a3_0) := (blk_cell BK220.out 0).trans rfl; have hcz59_1 : w58.cell? ⟨gb220, 1, none⟩ = some (.int .i64 a3_1) := (blk_cell BK220.out 1).trans rfl; have hcz59_2 : w58.cell? ⟨gb220, 2, none⟩ = some (.int .i64 a3_2) := (blk_cell BK220.out 2).trans rfl; have hcz59_3 : w58.cell? ⟨gb220, 3, none⟩ = some (.int .i64 a3_3) := (blk_cell BK220.out 3).trans rfl; have hcz59_4 : w58.cell? ⟨gb220, 4, none⟩ = some (.int .i64 a3_4) := (blk_cell BK220.out 4).trans rfl; have hcz59_5 : w58.cell? ⟨gb220, 5, none⟩ = some (.int .i64 0) := (blk_cell BK220.out 5).trans rfl; have hfz59_0 := blk_frozen BK220.out 0; have hfz59_1 := blk_frozen BK220.out 1; have hfz59_2 := blk_frozen BK220.out 2; have hfz59_3 := blk_frozen BK220.out 3; have hfz59_4 := blk_frozen BK220.out 4; have hfz59_5 := blk_frozen BK220.out 5))
                            go_ret
                            exact ⟨by first | rfl | (simp [errW_none, errW_some] <;> rfl) | (simp [*, errW_none, errW_some] <;> rfl), by repeat (first | (with_reducible first | exact HB.out | apply below_alloc | apply pw_below_drewN | apply below_drew1 | refine below_set ?_ GE220.out) | exact HB.out)⟩
                          · rw [if_neg c51] at H
                            have c51b0 : decide (a0 ≤ 2) = false := decide_eq_false c51
                            clear c51
                            obtain rfl := Option.some.inj H
                            have hcz60_0 : wc.cell? ⟨gb220, 0, none⟩ = some (.int .i64 a3_0) := (blk_cell BK220.out 0).trans rfl
                            have hcz60_1 : wc.cell? ⟨gb220, 1, none⟩ = some (.int .i64 a3_1) := (blk_cell BK220.out 1).trans rfl
                            have hcz60_2 : wc.cell? ⟨gb220, 2, none⟩ = some (.int .i64 a3_2) := (blk_cell BK220.out 2).trans rfl
                            have hcz60_3 : wc.cell? ⟨gb220, 3, none⟩ = some (.int .i64 a3_3) := (blk_cell BK220.out 3).trans rfl
                            have hcz60_4 : wc.cell? ⟨gb220, 4, none⟩ = some (.int .i64 a3_4) := (blk_cell BK220.out 4).trans rfl
                            have hcz60_5 : wc.cell? ⟨gb220, 5, none⟩ = some (.int .i64 a3_5) := (blk_cell BK220.out 5).trans rfl
                            have hfz60_0 := blk_frozen BK220.out 0
                            have hfz60_1 := blk_frozen BK220.out 1
                            have hfz60_2 := blk_frozen BK220.out 2
                            have hfz60_3 := blk_frozen BK220.out 3
                            have hfz60_4 := blk_frozen BK220.out 4
                            have hfz60_5 := blk_frozen BK220.out 5
                            try go_wp2
                            have n0_ : Aside0 ((wc.setCell ⟨gb220, 5, none⟩ (.int .i64 0)).heap[gb220]? = some (.cells #[.int .i64 a3_0, .int .i64 a3_1, .int .i64 a3_2, .int .i64 a3_3, .int .i64 a3_4, .int .i64 0] 26 (0, 0))) := ⟨by (with_reducible repeat (first | refine blk_drewN ?_ _ | refine blk_drew ?_ | refine blk_alloc ?_ _)); refine blk_put (cs := #[.int .i64 a3_0, .int .i64 a3_1, .int .i64 a3_2, .int .i64 a3_3, .int .i64 a3_4, .int .i64 a3_5]) ?_ 5 _ rfl; (with_reducible repeat (first | refine blk_drewN ?_ _ | refine blk_drew ?_ | refine blk_alloc ?_ _)); exact BK220.out⟩
                            have n1_ : Aside0 (Below w.heap.size w (wc.setCell ⟨gb220, 5, none⟩ (.int .i64 0))) := ⟨by repeat (first | (with_reducible first | exact HB.out | apply below_alloc | apply pw_below_drewN | apply below_drew1 | refine below_set ?_ GE220.out) | exact HB.out)⟩
                            (try clear BK220)
                            (try clear HB)
                            generalize (wc.setCell ⟨gb220, 5, none⟩ (.int .i64 0)) = w61 at n0_ n1_ ⊢
                            have BK220 := n0_
                            have HB := n1_
                            clear n0_ n1_
                            have n0_ := Aside0.mk (blk_drew BK220.out)
                            have n1_ := Aside0.mk (below_drew1 HB.out)
                            clear BK220
                            clear HB
                            have BK220 := n0_
                            have HB := n1_
                            clear n0_ n1_
                            refine start_ (n := 15) (S := fun w' => w'.cell? ⟨gb220, 0, none⟩ = some (.int .i64 a3_0) ∧ w'.cell? ⟨gb220, 1, none⟩ = some (.int .i64 a3_1) ∧ w'.cell? ⟨gb220, 2, none⟩ = some (.int .i64 a3_2) ∧ w'.cell? ⟨gb220, 3, none⟩ = some (.int .i64 a3_3) ∧ w'.cell? ⟨gb220, 4, none⟩ = some (.int .i64 a3_4) ∧ w'.cell? ⟨gb220, 5, none⟩ = some (.int .i64 0)) (ds := []) #[false, false, false, false, false, false, false, false, false, false, false, false, false, false, false] (by kernel_rfl) rfl rfl ⟨(blk_cell BK220.out 0).trans rfl, (blk_cell BK220.out 1).trans rfl, (blk_cell BK220.out 2).trans rfl, (blk_cell BK220.out 3).trans rfl, (blk_cell BK220.out 4).trans rfl, (blk_cell BK220.out 5).trans rfl⟩ (fun hHeld => ?_); refine with_tabW laws_FnRange.tab4 laws_FnRange.bits4 (fun HT_ HW_ => ?_)
                            generalize w61.drew = w62 at BK220 HB hHeld ⊢
                            refine pure_ (i := 0) (N := some 43) (v := ?_) (a' := ?_) #[true, false, false, false, false, false, false, false, false, false, false, false, false, false, false] rfl rfl (any_of HT_.out (by kernel_rfl)) (fun _ _ _ h => h) (Or.inl ⟨by rfl, ?_⟩) ?_ ?_
                            rotate_left
                            · intro w'
                              go_simp
                              with_reducible rfl
                            rotate_left
                            · simp only [Act.put, List.setIfInBounds_toArray, List.set_cons_zero, List.set_cons_succ, i64_w, i32_w]
                              rfl
                            refine pure_ (i := 1) (N := some 44) (v := ?_) (a' := ?_) #[true, true, false, false, false, false, false, false, false, false, false, false, false, false, false] rfl rfl (any_of HT_.out (by kernel_rfl)) (fun _ _ _ h => h) (Or.inl ⟨by rfl, ?_⟩) ?_ ?_
                            rotate_left
                            · intro w'
                              go_simp
                              with_reducible rfl
                            rotate_left
                            · simp only [Act.put, List.setIfInBounds_toArray, List.set_cons_zero, List.set_cons_succ, i64_w, i32_w]
                              rfl
                            refine pure_ (i := 4) (N := some 47) (v := ?_) (a' := ?_) #[true, true, false, false, true, false, false, false, false, false, false, false, false, false, false] rfl rfl (any_of HT_.out (by kernel_rfl)) (fun _ _ _ h => h) (Or.inl ⟨by rfl, ?_⟩) ?_ ?_
                            rotate_left
                            · intro w'
                              go_simp
                              with_reducible rfl
                            rotate_left
                            · simp only [Act.put, List.setIfInBounds_toArray, List.set_cons_zero, List.set_cons_succ, i64_w, i32_w]
                              rfl
                            refine take_ (i := 8) (N := some 51) (v := ?_) (a' := ?_) #[true, true, false, false, true, false, false, false, true, false, false, false, false, false, false] rfl rfl (take_ofW HT_.out HW_.out (by kernel_rfl)) (fun _ _ _ h => h) (Or.inl ⟨by rfl, ?_⟩) hHeld ?_ ?_
                            rotate_left
                            · rintro w' ⟨s0, s1, s2, s3, s4, s5⟩
                              go_simp
                              with_reducible rfl
                            rotate_left
                            · simp only [Act.put, List.setIfInBounds_toArray, List.set_cons_zero, List.set_cons_succ, i64_w, i32_w]
                              rfl
                            refine one_ (i := 2) (N := some 45) #[true, true, true, false, true, false, false, false, true, false, false, false, false, false, false] rfl rfl (one_of HT_.out (by kernel_rfl)) (by decide) (fun K hK => ?_)
                            refine goes_ Tryz.func24 (by kernel_rfl) rfl #[.int .i64 a1] (by rfl) rfl rfl (by (try simp only [List.map_toArray, List.map_cons, List.map_nil]); first | done | rfl | (simp only [List.length_drop, List.length_take]; rfl)) ?_
                            with_reducible refine (spec_Decimal.calls kj4 a1 t230 _ A20.out).mono ?_
                            rintro e w' ⟨rfl, ⟨nd, rfl⟩⟩
                            refine ⟨_, rfl, ?_⟩
                            refine hK.out _ _ ⟨(blk_cell BK220.out 0).trans rfl, (blk_cell BK220.out 1).trans rfl, (blk_cell BK220.out 2).trans rfl, (blk_cell BK220.out 3).trans rfl, (blk_cell BK220.out 4).trans rfl, (blk_cell BK220.out 5).trans rfl⟩ (fun hHeld => ?_)
                            clear hK K
                            refine norm_ (a' := ?_) ?_ ?_
                            rotate_left
                            · show Act.put _ (some 45) _ = _
                              simp only [Act.put, List.setIfInBounds_toArray, List.set_cons_zero, List.set_cons_succ, i64_w, i32_w]
                              rfl
                            refine pure_ (i := 3) (N := some 46) (v := ?_) (a' := ?_) #[true, true, true, true, true, false, false, false, true, false, false, false, false, false, false] rfl rfl (any_of HT_.out (by kernel_rfl)) (fun _ _ _ h => h) (Or.inl ⟨by rfl, ?_⟩) ?_ ?_
                            rotate_left
                            · intro w'
                              go_simp
                              with_reducible rfl
                            rotate_left
                            · simp only [Act.put, List.setIfInBounds_toArray, List.set_cons_zero, List.set_cons_succ, i64_w, i32_w]
                              rfl
                            refine one_ (i := 5) (N := some 48) #[true, true, true, true, true, true, false, false, true, false, false, false, false, false, false] rfl rfl (one_of HT_.out (by kernel_rfl)) (by decide) (fun K hK => ?_)
                            refine goes_ Tryz.func24 (by kernel_rfl) rfl #[.int .i64 a2] (by rfl) rfl rfl (by (try simp only [List.map_toArray, List.map_cons, List.map_nil]); first | done | rfl | (simp only [List.length_drop, List.length_take]; rfl)) ?_
                            with_reducible refine (spec_Decimal.calls kj4 a2 t231 _ A22.out).mono ?_
                            rintro e w' ⟨rfl, ⟨nd, rfl⟩⟩
                            refine ⟨_, rfl, ?_⟩
                            refine hK.out _ _ ⟨(blk_cell BK220.out 0).trans rfl, (blk_cell BK220.out 1).trans rfl, (blk_cell BK220.out 2).trans rfl, (blk_cell BK220.out 3).trans rfl, (blk_cell BK220.out 4).trans rfl, (blk_cell BK220.out 5).trans rfl⟩ (fun hHeld => ?_)
                            clear hK K
                            refine norm_ (a' := ?_) ?_ ?_
                            rotate_left
                            · show Act.put _ (some 48) _ = _
                              simp only [Act.put, List.setIfInBounds_toArray, List.set_cons_zero, List.set_cons_succ, i64_w, i32_w]
                              rfl
                            refine pure_ (i := 6) (N := some 49) (v := ?_) (a' := ?_) #[true, true, true, true, true, true, true, false, true, false, false, false, false, false, false] rfl rfl (any_of HT_.out (by kernel_rfl)) (fun _ _ _ h => h) (Or.inl ⟨by rfl, ?_⟩) ?_ ?_
                            rotate_left
                            · intro w'
                              go_simp
                              with_reducible rfl
                            rotate_left
                            · simp only [Act.put, List.setIfInBounds_toArray, List.set_cons_zero, List.set_cons_succ, i64_w, i32_w]
                              rfl
                            refine one_ (i := 7) (N := some 50) #[true, true, true, true, true, true, true, true, true, false, false, false, false, false, false] rfl rfl (one_of HT_.out (by kernel_rfl)) (by decide) (fun K hK => ?_)
                            refine goes_ Tryz.func23 (by kernel_rfl) rfl #[.int .i64 a0, .string ((t230 ++ (⟨#[45]⟩ : ByteArray)) ++ t231)] (by rfl) rfl rfl (by (try simp only [List.map_toArray, List.map_cons, List.map_nil]); first | done | rfl | (simp only [List.length_drop, List.length_take]; rfl)) ?_
                            with_reducible refine (laws_stars.calls kj4 a0 ((t230 ++ (⟨#[45]⟩ : ByteArray)) ++ t231) t232 _ A24.out).mono ?_
                            rintro e w' ⟨rfl, ⟨nd, rfl⟩⟩
                            refine ⟨_, rfl, ?_⟩
                            refine hK.out _ _ ⟨(blk_cell BK220.out 0).trans rfl, (blk_cell BK220.out 1).trans rfl, (blk_cell BK220.out 2).trans rfl, (blk_cell BK220.out 3).trans rfl, (blk_cell BK220.out 4).trans rfl, (blk_cell BK220.out 5).trans rfl⟩ (fun hHeld => ?_)
                            clear hK K
                            refine norm_ (a' := ?_) ?_ ?_
                            rotate_left
                            · show Act.put _ (some 50) _ = _
                              simp only [Act.put, List.setIfInBounds_toArray, List.set_cons_zero, List.set_cons_succ, i64_w, i32_w]
                              rfl
                            refine one_ (i := 9) (N := some 52) #[true, true, true, true, true, true, true, true, true, true, false, false, false, false, false] rfl rfl (one_of HT_.out (by kernel_rfl)) (by decide) (fun K hK => ?_)
                            refine goes_ Tryz.func14 (by kernel_rfl) rfl #[.string t232, .agg #[.int .i64 a3_0, .int .i64 a3_1, .int .i64 a3_2, .int .i64 a3_3, .int .i64 a3_4, .int .i64 0]] (by rfl) rfl rfl (by (try simp only [List.map_toArray, List.map_cons, List.map_nil]); first | done | rfl | (simp only [List.length_drop, List.length_take]; rfl)) ?_
                            with_reducible refine (impl_Due.calls t232 a3_0 a3_1 a3_2 a3_3 a3_4 0 t233 true _ A25.out).mono ?_
                            rintro e w63 ⟨rfl, hb⟩
                            refine ⟨_, rfl, ?_⟩
                            have n0_ := Aside0.mk (blk_below (g := gb220) (o := .cells #[.int .i64 a3_0, .int .i64 a3_1, .int .i64 a3_2, .int .i64 a3_3, .int .i64 a3_4, .int .i64 0] 26 (0, 0)) (by (with_reducible repeat (first | refine blk_drewN ?_ _ | refine blk_drew ?_ | refine blk_alloc ?_ _)); exact BK220.out) hb)
                            have n1_ := Aside0.mk (below_step (by repeat (first | (with_reducible first | exact HB.out | apply below_alloc | apply pw_below_drewN | apply below_drew1 | refine below_set ?_ GE220.out) | exact HB.out)) hb)
                            clear BK220
                            clear HB
                            have BK220 := n0_
                            have HB := n1_
                            clear n0_ n1_
                            (try clear hb)
                            (try clear hb2)
                            (try clear hk)
                            (try clear hi)
                            refine hK.out _ _ ⟨(blk_cell BK220.out 0).trans rfl, (blk_cell BK220.out 1).trans rfl, (blk_cell BK220.out 2).trans rfl, (blk_cell BK220.out 3).trans rfl, (blk_cell BK220.out 4).trans rfl, (blk_cell BK220.out 5).trans rfl⟩ (fun hHeld => ?_)
                            clear hK K
                            refine norm_ (a' := ?_) ?_ ?_
                            rotate_left
                            · show Act.put _ (some 52) _ = _
                              simp only [Act.put, List.setIfInBounds_toArray, List.set_cons_zero, List.set_cons_succ, i64_w, i32_w]
                              rfl
                            refine pure_ (i := 10) (N := some 42) (v := ?_) (a' := ?_) #[true, true, true, true, true, true, true, true, true, true, true, false, false, false, false] rfl rfl (any_of HT_.out (by kernel_rfl)) (fun _ _ _ h => h) (Or.inl ⟨by rfl, ?_⟩) ?_ ?_
                            rotate_left
                            · intro w'
                              go_simp
                              with_reducible rfl
                            rotate_left
                            · simp only [Act.put, List.setIfInBounds_toArray, List.set_cons_zero, List.set_cons_succ, i64_w, i32_w]
                              rfl
                            refine pure_ (i := 11) (N := some 53) (v := ?_) (a' := ?_) #[true, true, true, true, true, true, true, true, true, true, true, true, false, false, false] rfl rfl (any_of HT_.out (by kernel_rfl)) (fun _ _ _ h => h) (Or.inl ⟨by rfl, ?_⟩) ?_ ?_
                            rotate_left
                            · intro w'
                              go_simp
                              with_reducible rfl
                            rotate_left
                            · simp only [Act.put, List.setIfInBounds_toArray, List.set_cons_zero, List.set_cons_succ, i64_w, i32_w]
                              rfl
                            refine pure_ (i := 12) (N := some 54) (v := ?_) (a' := ?_) #[true, true, true, true, true, true, true, true, true, true, true, true, true, false, false] rfl rfl (any_of HT_.out (by kernel_rfl)) (fun _ _ _ h => h) (Or.inl ⟨by rfl, ?_⟩) ?_ ?_
                            rotate_left
                            · intro w'
                              go_simp
                              with_reducible rfl
                            rotate_left
                            · simp only [Act.put, List.setIfInBounds_toArray, List.set_cons_zero, List.set_cons_succ, i64_w, i32_w]
                              rfl
                            refine pure_ (i := 13) (N := some 9) (v := ?_) (a' := ?_) #[true, true, true, true, true, true, true, true, true, true, true, true, true, true, false] rfl rfl (any_of HT_.out (by kernel_rfl)) (fun _ _ _ h => h) (Or.inl ⟨by rfl, ?_⟩) ?_ ?_
                            rotate_left
                            · intro w'
                              go_simp
                              with_reducible rfl
                            rotate_left
                            · simp only [Act.put, List.setIfInBounds_toArray, List.set_cons_zero, List.set_cons_succ, i64_w, i32_w]
                              rfl
                            refine pure_ (i := 14) (N := some 10) (v := ?_) (a' := ?_) #[true, true, true, true, true, true, true, true, true, true, true, true, true, true, true] rfl rfl (any_of HT_.out (by kernel_rfl)) (fun _ _ _ h => h) (Or.inl ⟨by rfl, ?_⟩) ?_ ?_
                            rotate_left
                            · intro w'
                              go_simp
                              with_reducible rfl
                            rotate_left
                            · simp only [Act.put, List.setIfInBounds_toArray, List.set_cons_zero, List.set_cons_succ, i64_w, i32_w]
                              rfl
                            refine done_ (done_of HT_.out (by kernel_rfl)) ?_
                            have hcz64_0 : w63.cell? ⟨gb220, 0, none⟩ = some (.int .i64 a3_0) := (blk_cell BK220.out 0).trans rfl
                            have hcz64_1 : w63.cell? ⟨gb220, 1, none⟩ = some (.int .i64 a3_1) := (blk_cell BK220.out 1).trans rfl
                            have hcz64_2 : w63.cell? ⟨gb220, 2, none⟩ = some (.int .i64 a3_2) := (blk_cell BK220.out 2).trans rfl
                            have hcz64_3 : w63.cell? ⟨gb220, 3, none⟩ = some (.int .i64 a3_3) := (blk_cell BK220.out 3).trans rfl
                            have hcz64_4 : w63.cell? ⟨gb220, 4, none⟩ = some (.int .i64 a3_4) := (blk_cell BK220.out 4).trans rfl
                            have hcz64_5 : w63.cell? ⟨gb220, 5, none⟩ = some (.int .i64 0) := (blk_cell BK220.out 5).trans rfl
                            have hfz64_0 := blk_frozen BK220.out 0
                            have hfz64_1 := blk_frozen BK220.out 1
                            have hfz64_2 := blk_frozen BK220.out 2
                            have hfz64_3 := blk_frozen BK220.out 3
                            have hfz64_4 := blk_frozen BK220.out 4
                            have hfz64_5 := blk_frozen BK220.out 5
                            try go_wp2_with (first | ((with_reducible refine gate_callee (f := 19) rfl ?_); refine goesL_ (some 56) rfl rfl Tryz.func19 (by kernel_rfl) rfl #[.agg #[.int .i64 a3_0, .int .i64 a3_1, .int .i64 a3_2, .int .i64 a3_3, .int .i64 a3_4, .int .i64 0]] rfl (by (try simp only [List.map_toArray, List.map_cons, List.map_nil]); first | done | rfl | (simp only [List.length_drop, List.length_take]; rfl)) ?_; (with_reducible refine (laws_moment.calls a3_0 a3_1 a3_2 a3_3 a3_4 0 t235 t236 t237 t238 t239 t240 _ A26.out).mono ?_); rintro e w65 ⟨rfl, hb⟩; refine ⟨_, rfl, ?_⟩; have n0_ := Aside0.mk (blk_below (g := gb220) (o := .cells #[.int .i64 a3_0, .int .i64 a3_1, .int .i64 a3_2, .int .i64 a3_3, .int .i64 a3_4, .int .i64 0] 26 (0, 0)) (by (with_reducible repeat (first | refine blk_drewN ?_ _ | refine blk_drew ?_ | refine blk_alloc ?_ _)); exact BK220.out) hb); have n1_ := Aside0.mk (below_step (by repeat (first | (with_reducible first | exact HB.out | apply below_alloc | apply pw_below_drewN | apply below_drew1 | refine below_set ?_ GE220.out) | exact HB.out)) hb); clear BK220; clear HB; have BK220 := n0_; have HB := n1_; clear n0_ n1_; (try clear hb); (try clear hb2); (try clear hk); (try clear hi)) | ((with_reducible refine gate_callee (f := 25) rfl ?_); refine goesL_ (some 57) rfl rfl Tryz.func25 (by kernel_rfl) rfl #[.agg #[.int .i64 t235, .int .i64 t236, .int .i64 t237, .int .i64 t238, .int .i64 t239, .int .i64 t240]] rfl (by (try simp only [List.map_toArray, List.map_cons, List.map_nil]); first | done | rfl | (simp only [List.length_drop, List.length_take]; rfl)) ?_; (with_reducible refine (laws_numbers.calls kj4 t235 t236 t237 t238 t239 t240 t241 t242 t243 t244 t245 t246 _ A27.out).mono ?_); rintro e w66 ⟨rfl, hb⟩; refine ⟨_, rfl, ?_⟩; have n0_ := Aside0.mk (blk_below (g := gb220) (o := .cells #[.int .i64 a3_0, .int .i64 a3_1, .int .i64 a3_2, .int .i64 a3_3, .int .i64 a3_4, .int .i64 0] 26 (0, 0)) (by (with_reducible repeat (first | refine blk_drewN ?_ _ | refine blk_drew ?_ | refine blk_alloc ?_ _)); exact BK220.out) hb); have n1_ := Aside0.mk (below_step (by repeat (first | (with_reducible first | exact HB.out | apply below_alloc | apply pw_below_drewN | apply below_drew1 | refine below_set ?_ GE220.out) | exact HB.out)) hb); clear BK220; clear HB; have BK220 := n0_; have HB := n1_; clear n0_ n1_; (try clear hb); (try clear hb2); (try clear hk); (try clear hi); have hcz67_0 : w66.cell? ⟨gb220, 0, none⟩ = some (.int .i64 a3_0) := (blk_cell BK220.out 0).trans rfl; have hcz67_1 : w66.cell? ⟨gb220, 1, none⟩ = some (.int .i64 a3_1) := (blk_cell BK220.out 1).trans rfl; have hcz67_2 : w66.cell? ⟨gb220, 2, none⟩ = some (.int .i64 a3_2) := (blk_cell BK220.out 2).trans rfl; have hcz67_3 : w66.cell? ⟨gb220, 3, none⟩ = some (.int .i64 a3_3) := (blk_cell BK220.out 3).trans rfl; have hcz67_4 : w66.cell? ⟨gb220, 4, none⟩ = some (.int .i64 a3_4) := (blk_cell BK220.out 4).trans rfl; have hcz67_5 : w66.cell? ⟨gb220, 5, none⟩ = some (.int .i64 0) := (blk_cell BK220.out 5).trans rfl; have hfz67_0 := blk_frozen BK220.out 0; have hfz67_1 := blk_frozen BK220.out 1; have hfz67_2 := blk_frozen BK220.out 2; have hfz67_3 := blk_frozen BK220.out 3; have hfz67_4 := blk_frozen BK220.out 4; have hfz67_5 := blk_frozen BK220.out 5))
                            go_ret
                            exact ⟨by first | rfl | (simp [errW_none, errW_some] <;> rfl) | (simp [*, errW_none, errW_some] <;> rfl), by repeat (first | (with_reducible first | exact HB.out | apply below_alloc | apply pw_below_drewN | apply below_drew1 | refine below_set ?_ GE220.out) | exact HB.out)⟩
                        · rw [if_neg c50] at H
                          have c50b0 : (a3_4 == 0) = false := beq_eq_false_iff_ne.mpr c50
                          have c50b1 : (a3_4 != 0) = true := bne_iff_ne.mpr c50
                          obtain rfl := Option.some.inj H
                          have hcz68_0 : wc.cell? ⟨gb220, 0, none⟩ = some (.int .i64 a3_0) := (blk_cell BK220.out 0).trans rfl
                          have hcz68_1 : wc.cell? ⟨gb220, 1, none⟩ = some (.int .i64 a3_1) := (blk_cell BK220.out 1).trans rfl
                          have hcz68_2 : wc.cell? ⟨gb220, 2, none⟩ = some (.int .i64 a3_2) := (blk_cell BK220.out 2).trans rfl
                          have hcz68_3 : wc.cell? ⟨gb220, 3, none⟩ = some (.int .i64 a3_3) := (blk_cell BK220.out 3).trans rfl
                          have hcz68_4 : wc.cell? ⟨gb220, 4, none⟩ = some (.int .i64 a3_4) := (blk_cell BK220.out 4).trans rfl
                          have hcz68_5 : wc.cell? ⟨gb220, 5, none⟩ = some (.int .i64 a3_5) := (blk_cell BK220.out 5).trans rfl
                          have hfz68_0 := blk_frozen BK220.out 0
                          have hfz68_1 := blk_frozen BK220.out 1
                          have hfz68_2 := blk_frozen BK220.out 2
                          have hfz68_3 := blk_frozen BK220.out 3
                          have hfz68_4 := blk_frozen BK220.out 4
                          have hfz68_5 := blk_frozen BK220.out 5
                          try go_wp2
                          have n0_ : Aside0 ((wc.setCell ⟨gb220, 5, none⟩ (.int .i64 0)).heap[gb220]? = some (.cells #[.int .i64 a3_0, .int .i64 a3_1, .int .i64 a3_2, .int .i64 a3_3, .int .i64 a3_4, .int .i64 0] 26 (0, 0))) := ⟨by (with_reducible repeat (first | refine blk_drewN ?_ _ | refine blk_drew ?_ | refine blk_alloc ?_ _)); refine blk_put (cs := #[.int .i64 a3_0, .int .i64 a3_1, .int .i64 a3_2, .int .i64 a3_3, .int .i64 a3_4, .int .i64 a3_5]) ?_ 5 _ rfl; (with_reducible repeat (first | refine blk_drewN ?_ _ | refine blk_drew ?_ | refine blk_alloc ?_ _)); exact BK220.out⟩
                          have n1_ : Aside0 (Below w.heap.size w (wc.setCell ⟨gb220, 5, none⟩ (.int .i64 0))) := ⟨by repeat (first | (with_reducible first | exact HB.out | apply below_alloc | apply pw_below_drewN | apply below_drew1 | refine below_set ?_ GE220.out) | exact HB.out)⟩
                          (try clear BK220)
                          (try clear HB)
                          generalize (wc.setCell ⟨gb220, 5, none⟩ (.int .i64 0)) = w69 at n0_ n1_ ⊢
                          have BK220 := n0_
                          have HB := n1_
                          clear n0_ n1_
                          have n0_ := Aside0.mk (blk_drew BK220.out)
                          have n1_ := Aside0.mk (below_drew1 HB.out)
                          clear BK220
                          clear HB
                          have BK220 := n0_
                          have HB := n1_
                          clear n0_ n1_
                          refine start_ (n := 15) (S := fun w' => w'.cell? ⟨gb220, 0, none⟩ = some (.int .i64 a3_0) ∧ w'.cell? ⟨gb220, 1, none⟩ = some (.int .i64 a3_1) ∧ w'.cell? ⟨gb220, 2, none⟩ = some (.int .i64 a3_2) ∧ w'.cell? ⟨gb220, 3, none⟩ = some (.int .i64 a3_3) ∧ w'.cell? ⟨gb220, 4, none⟩ = some (.int .i64 a3_4) ∧ w'.cell? ⟨gb220, 5, none⟩ = some (.int .i64 0)) (ds := []) #[false, false, false, false, false, false, false, false, false, false, false, false, false, false, false] (by kernel_rfl) rfl rfl ⟨(blk_cell BK220.out 0).trans rfl, (blk_cell BK220.out 1).trans rfl, (blk_cell BK220.out 2).trans rfl, (blk_cell BK220.out 3).trans rfl, (blk_cell BK220.out 4).trans rfl, (blk_cell BK220.out 5).trans rfl⟩ (fun hHeld => ?_); refine with_tabW laws_FnRange.tab4 laws_FnRange.bits4 (fun HT_ HW_ => ?_)
                          generalize w69.drew = w70 at BK220 HB hHeld ⊢
                          refine pure_ (i := 0) (N := some 43) (v := ?_) (a' := ?_) #[true, false, false, false, false, false, false, false, false, false, false, false, false, false, false] rfl rfl (any_of HT_.out (by kernel_rfl)) (fun _ _ _ h => h) (Or.inl ⟨by rfl, ?_⟩) ?_ ?_
                          rotate_left
                          · intro w'
                            go_simp
                            with_reducible rfl
                          rotate_left
                          · simp only [Act.put, List.setIfInBounds_toArray, List.set_cons_zero, List.set_cons_succ, i64_w, i32_w]
                            rfl
                          refine pure_ (i := 1) (N := some 44) (v := ?_) (a' := ?_) #[true, true, false, false, false, false, false, false, false, false, false, false, false, false, false] rfl rfl (any_of HT_.out (by kernel_rfl)) (fun _ _ _ h => h) (Or.inl ⟨by rfl, ?_⟩) ?_ ?_
                          rotate_left
                          · intro w'
                            go_simp
                            with_reducible rfl
                          rotate_left
                          · simp only [Act.put, List.setIfInBounds_toArray, List.set_cons_zero, List.set_cons_succ, i64_w, i32_w]
                            rfl
                          refine pure_ (i := 4) (N := some 47) (v := ?_) (a' := ?_) #[true, true, false, false, true, false, false, false, false, false, false, false, false, false, false] rfl rfl (any_of HT_.out (by kernel_rfl)) (fun _ _ _ h => h) (Or.inl ⟨by rfl, ?_⟩) ?_ ?_
                          rotate_left
                          · intro w'
                            go_simp
                            with_reducible rfl
                          rotate_left
                          · simp only [Act.put, List.setIfInBounds_toArray, List.set_cons_zero, List.set_cons_succ, i64_w, i32_w]
                            rfl
                          refine take_ (i := 8) (N := some 51) (v := ?_) (a' := ?_) #[true, true, false, false, true, false, false, false, true, false, false, false, false, false, false] rfl rfl (take_ofW HT_.out HW_.out (by kernel_rfl)) (fun _ _ _ h => h) (Or.inl ⟨by rfl, ?_⟩) hHeld ?_ ?_
                          rotate_left
                          · rintro w' ⟨s0, s1, s2, s3, s4, s5⟩
                            go_simp
                            with_reducible rfl
                          rotate_left
                          · simp only [Act.put, List.setIfInBounds_toArray, List.set_cons_zero, List.set_cons_succ, i64_w, i32_w]
                            rfl
                          refine one_ (i := 2) (N := some 45) #[true, true, true, false, true, false, false, false, true, false, false, false, false, false, false] rfl rfl (one_of HT_.out (by kernel_rfl)) (by decide) (fun K hK => ?_)
                          refine goes_ Tryz.func24 (by kernel_rfl) rfl #[.int .i64 a1] (by rfl) rfl rfl (by (try simp only [List.map_toArray, List.map_cons, List.map_nil]); first | done | rfl | (simp only [List.length_drop, List.length_take]; rfl)) ?_
                          with_reducible refine (spec_Decimal.calls kj4 a1 t230 _ A20.out).mono ?_
                          rintro e w' ⟨rfl, ⟨nd, rfl⟩⟩
                          refine ⟨_, rfl, ?_⟩
                          refine hK.out _ _ ⟨(blk_cell BK220.out 0).trans rfl, (blk_cell BK220.out 1).trans rfl, (blk_cell BK220.out 2).trans rfl, (blk_cell BK220.out 3).trans rfl, (blk_cell BK220.out 4).trans rfl, (blk_cell BK220.out 5).trans rfl⟩ (fun hHeld => ?_)
                          clear hK K
                          refine norm_ (a' := ?_) ?_ ?_
                          rotate_left
                          · show Act.put _ (some 45) _ = _
                            simp only [Act.put, List.setIfInBounds_toArray, List.set_cons_zero, List.set_cons_succ, i64_w, i32_w]
                            rfl
                          refine pure_ (i := 3) (N := some 46) (v := ?_) (a' := ?_) #[true, true, true, true, true, false, false, false, true, false, false, false, false, false, false] rfl rfl (any_of HT_.out (by kernel_rfl)) (fun _ _ _ h => h) (Or.inl ⟨by rfl, ?_⟩) ?_ ?_
                          rotate_left
                          · intro w'
                            go_simp
                            with_reducible rfl
                          rotate_left
                          · simp only [Act.put, List.setIfInBounds_toArray, List.set_cons_zero, List.set_cons_succ, i64_w, i32_w]
                            rfl
                          refine one_ (i := 5) (N := some 48) #[true, true, true, true, true, true, false, false, true, false, false, false, false, false, false] rfl rfl (one_of HT_.out (by kernel_rfl)) (by decide) (fun K hK => ?_)
                          refine goes_ Tryz.func24 (by kernel_rfl) rfl #[.int .i64 a2] (by rfl) rfl rfl (by (try simp only [List.map_toArray, List.map_cons, List.map_nil]); first | done | rfl | (simp only [List.length_drop, List.length_take]; rfl)) ?_
                          with_reducible refine (spec_Decimal.calls kj4 a2 t231 _ A22.out).mono ?_
                          rintro e w' ⟨rfl, ⟨nd, rfl⟩⟩
                          refine ⟨_, rfl, ?_⟩
                          refine hK.out _ _ ⟨(blk_cell BK220.out 0).trans rfl, (blk_cell BK220.out 1).trans rfl, (blk_cell BK220.out 2).trans rfl, (blk_cell BK220.out 3).trans rfl, (blk_cell BK220.out 4).trans rfl, (blk_cell BK220.out 5).trans rfl⟩ (fun hHeld => ?_)
                          clear hK K
                          refine norm_ (a' := ?_) ?_ ?_
                          rotate_left
                          · show Act.put _ (some 48) _ = _
                            simp only [Act.put, List.setIfInBounds_toArray, List.set_cons_zero, List.set_cons_succ, i64_w, i32_w]
                            rfl
                          refine pure_ (i := 6) (N := some 49) (v := ?_) (a' := ?_) #[true, true, true, true, true, true, true, false, true, false, false, false, false, false, false] rfl rfl (any_of HT_.out (by kernel_rfl)) (fun _ _ _ h => h) (Or.inl ⟨by rfl, ?_⟩) ?_ ?_
                          rotate_left
                          · intro w'
                            go_simp
                            with_reducible rfl
                          rotate_left
                          · simp only [Act.put, List.setIfInBounds_toArray, List.set_cons_zero, List.set_cons_succ, i64_w, i32_w]
                            rfl
                          refine one_ (i := 7) (N := some 50) #[true, true, true, true, true, true, true, true, true, false, false, false, false, false, false] rfl rfl (one_of HT_.out (by kernel_rfl)) (by decide) (fun K hK => ?_)
                          refine goes_ Tryz.func23 (by kernel_rfl) rfl #[.int .i64 a0, .string ((t230 ++ (⟨#[45]⟩ : ByteArray)) ++ t231)] (by rfl) rfl rfl (by (try simp only [List.map_toArray, List.map_cons, List.map_nil]); first | done | rfl | (simp only [List.length_drop, List.length_take]; rfl)) ?_
                          with_reducible refine (laws_stars.calls kj4 a0 ((t230 ++ (⟨#[45]⟩ : ByteArray)) ++ t231) t232 _ A24.out).mono ?_
                          rintro e w' ⟨rfl, ⟨nd, rfl⟩⟩
                          refine ⟨_, rfl, ?_⟩
                          refine hK.out _ _ ⟨(blk_cell BK220.out 0).trans rfl, (blk_cell BK220.out 1).trans rfl, (blk_cell BK220.out 2).trans rfl, (blk_cell BK220.out 3).trans rfl, (blk_cell BK220.out 4).trans rfl, (blk_cell BK220.out 5).trans rfl⟩ (fun hHeld => ?_)
                          clear hK K
                          refine norm_ (a' := ?_) ?_ ?_
                          rotate_left
                          · show Act.put _ (some 50) _ = _
                            simp only [Act.put, List.setIfInBounds_toArray, List.set_cons_zero, List.set_cons_succ, i64_w, i32_w]
                            rfl
                          refine one_ (i := 9) (N := some 52) #[true, true, true, true, true, true, true, true, true, true, false, false, false, false, false] rfl rfl (one_of HT_.out (by kernel_rfl)) (by decide) (fun K hK => ?_)
                          refine goes_ Tryz.func14 (by kernel_rfl) rfl #[.string t232, .agg #[.int .i64 a3_0, .int .i64 a3_1, .int .i64 a3_2, .int .i64 a3_3, .int .i64 a3_4, .int .i64 0]] (by rfl) rfl rfl (by (try simp only [List.map_toArray, List.map_cons, List.map_nil]); first | done | rfl | (simp only [List.length_drop, List.length_take]; rfl)) ?_
                          with_reducible refine (impl_Due.calls t232 a3_0 a3_1 a3_2 a3_3 a3_4 0 t233 true _ A25.out).mono ?_
                          rintro e w71 ⟨rfl, hb⟩
                          refine ⟨_, rfl, ?_⟩
                          have n0_ := Aside0.mk (blk_below (g := gb220) (o := .cells #[.int .i64 a3_0, .int .i64 a3_1, .int .i64 a3_2, .int .i64 a3_3, .int .i64 a3_4, .int .i64 0] 26 (0, 0)) (by (with_reducible repeat (first | refine blk_drewN ?_ _ | refine blk_drew ?_ | refine blk_alloc ?_ _)); exact BK220.out) hb)
                          have n1_ := Aside0.mk (below_step (by repeat (first | (with_reducible first | exact HB.out | apply below_alloc | apply pw_below_drewN | apply below_drew1 | refine below_set ?_ GE220.out) | exact HB.out)) hb)
                          clear BK220
                          clear HB
                          have BK220 := n0_
                          have HB := n1_
                          clear n0_ n1_
                          (try clear hb)
                          (try clear hb2)
                          (try clear hk)
                          (try clear hi)
                          refine hK.out _ _ ⟨(blk_cell BK220.out 0).trans rfl, (blk_cell BK220.out 1).trans rfl, (blk_cell BK220.out 2).trans rfl, (blk_cell BK220.out 3).trans rfl, (blk_cell BK220.out 4).trans rfl, (blk_cell BK220.out 5).trans rfl⟩ (fun hHeld => ?_)
                          clear hK K
                          refine norm_ (a' := ?_) ?_ ?_
                          rotate_left
                          · show Act.put _ (some 52) _ = _
                            simp only [Act.put, List.setIfInBounds_toArray, List.set_cons_zero, List.set_cons_succ, i64_w, i32_w]
                            rfl
                          refine pure_ (i := 10) (N := some 42) (v := ?_) (a' := ?_) #[true, true, true, true, true, true, true, true, true, true, true, false, false, false, false] rfl rfl (any_of HT_.out (by kernel_rfl)) (fun _ _ _ h => h) (Or.inl ⟨by rfl, ?_⟩) ?_ ?_
                          rotate_left
                          · intro w'
                            go_simp
                            with_reducible rfl
                          rotate_left
                          · simp only [Act.put, List.setIfInBounds_toArray, List.set_cons_zero, List.set_cons_succ, i64_w, i32_w]
                            rfl
                          refine pure_ (i := 11) (N := some 53) (v := ?_) (a' := ?_) #[true, true, true, true, true, true, true, true, true, true, true, true, false, false, false] rfl rfl (any_of HT_.out (by kernel_rfl)) (fun _ _ _ h => h) (Or.inl ⟨by rfl, ?_⟩) ?_ ?_
                          rotate_left
                          · intro w'
                            go_simp
                            with_reducible rfl
                          rotate_left
                          · simp only [Act.put, List.setIfInBounds_toArray, List.set_cons_zero, List.set_cons_succ, i64_w, i32_w]
                            rfl
                          refine pure_ (i := 12) (N := some 54) (v := ?_) (a' := ?_) #[true, true, true, true, true, true, true, true, true, true, true, true, true, false, false] rfl rfl (any_of HT_.out (by kernel_rfl)) (fun _ _ _ h => h) (Or.inl ⟨by rfl, ?_⟩) ?_ ?_
                          rotate_left
                          · intro w'
                            go_simp
                            with_reducible rfl
                          rotate_left
                          · simp only [Act.put, List.setIfInBounds_toArray, List.set_cons_zero, List.set_cons_succ, i64_w, i32_w]
                            rfl
                          refine pure_ (i := 13) (N := some 9) (v := ?_) (a' := ?_) #[true, true, true, true, true, true, true, true, true, true, true, true, true, true, false] rfl rfl (any_of HT_.out (by kernel_rfl)) (fun _ _ _ h => h) (Or.inl ⟨by rfl, ?_⟩) ?_ ?_
                          rotate_left
                          · intro w'
                            go_simp
                            with_reducible rfl
                          rotate_left
                          · simp only [Act.put, List.setIfInBounds_toArray, List.set_cons_zero, List.set_cons_succ, i64_w, i32_w]
                            rfl
                          refine pure_ (i := 14) (N := some 10) (v := ?_) (a' := ?_) #[true, true, true, true, true, true, true, true, true, true, true, true, true, true, true] rfl rfl (any_of HT_.out (by kernel_rfl)) (fun _ _ _ h => h) (Or.inl ⟨by rfl, ?_⟩) ?_ ?_
                          rotate_left
                          · intro w'
                            go_simp
                            with_reducible rfl
                          rotate_left
                          · simp only [Act.put, List.setIfInBounds_toArray, List.set_cons_zero, List.set_cons_succ, i64_w, i32_w]
                            rfl
                          refine done_ (done_of HT_.out (by kernel_rfl)) ?_
                          have hcz72_0 : w71.cell? ⟨gb220, 0, none⟩ = some (.int .i64 a3_0) := (blk_cell BK220.out 0).trans rfl
                          have hcz72_1 : w71.cell? ⟨gb220, 1, none⟩ = some (.int .i64 a3_1) := (blk_cell BK220.out 1).trans rfl
                          have hcz72_2 : w71.cell? ⟨gb220, 2, none⟩ = some (.int .i64 a3_2) := (blk_cell BK220.out 2).trans rfl
                          have hcz72_3 : w71.cell? ⟨gb220, 3, none⟩ = some (.int .i64 a3_3) := (blk_cell BK220.out 3).trans rfl
                          have hcz72_4 : w71.cell? ⟨gb220, 4, none⟩ = some (.int .i64 a3_4) := (blk_cell BK220.out 4).trans rfl
                          have hcz72_5 : w71.cell? ⟨gb220, 5, none⟩ = some (.int .i64 0) := (blk_cell BK220.out 5).trans rfl
                          have hfz72_0 := blk_frozen BK220.out 0
                          have hfz72_1 := blk_frozen BK220.out 1
                          have hfz72_2 := blk_frozen BK220.out 2
                          have hfz72_3 := blk_frozen BK220.out 3
                          have hfz72_4 := blk_frozen BK220.out 4
                          have hfz72_5 := blk_frozen BK220.out 5
                          try go_wp2_with (first | ((with_reducible refine gate_callee (f := 19) rfl ?_); refine goesL_ (some 56) rfl rfl Tryz.func19 (by kernel_rfl) rfl #[.agg #[.int .i64 a3_0, .int .i64 a3_1, .int .i64 a3_2, .int .i64 a3_3, .int .i64 a3_4, .int .i64 0]] rfl (by (try simp only [List.map_toArray, List.map_cons, List.map_nil]); first | done | rfl | (simp only [List.length_drop, List.length_take]; rfl)) ?_; (with_reducible refine (laws_moment.calls a3_0 a3_1 a3_2 a3_3 a3_4 0 t235 t236 t237 t238 t239 t240 _ A26.out).mono ?_); rintro e w73 ⟨rfl, hb⟩; refine ⟨_, rfl, ?_⟩; have n0_ := Aside0.mk (blk_below (g := gb220) (o := .cells #[.int .i64 a3_0, .int .i64 a3_1, .int .i64 a3_2, .int .i64 a3_3, .int .i64 a3_4, .int .i64 0] 26 (0, 0)) (by (with_reducible repeat (first | refine blk_drewN ?_ _ | refine blk_drew ?_ | refine blk_alloc ?_ _)); exact BK220.out) hb); have n1_ := Aside0.mk (below_step (by repeat (first | (with_reducible first | exact HB.out | apply below_alloc | apply pw_below_drewN | apply below_drew1 | refine below_set ?_ GE220.out) | exact HB.out)) hb); clear BK220; clear HB; have BK220 := n0_; have HB := n1_; clear n0_ n1_; (try clear hb); (try clear hb2); (try clear hk); (try clear hi)) | ((with_reducible refine gate_callee (f := 25) rfl ?_); refine goesL_ (some 57) rfl rfl Tryz.func25 (by kernel_rfl) rfl #[.agg #[.int .i64 t235, .int .i64 t236, .int .i64 t237, .int .i64 t238, .int .i64 t239, .int .i64 t240]] rfl (by (try simp only [List.map_toArray, List.map_cons, List.map_nil]); first | done | rfl | (simp only [List.length_drop, List.length_take]; rfl)) ?_; (with_reducible refine (laws_numbers.calls kj4 t235 t236 t237 t238 t239 t240 t241 t242 t243 t244 t245 t246 _ A27.out).mono ?_); rintro e w74 ⟨rfl, hb⟩; refine ⟨_, rfl, ?_⟩; have n0_ := Aside0.mk (blk_below (g := gb220) (o := .cells #[.int .i64 a3_0, .int .i64 a3_1, .int .i64 a3_2, .int .i64 a3_3, .int .i64 a3_4, .int .i64 0] 26 (0, 0)) (by (with_reducible repeat (first | refine blk_drewN ?_ _ | refine blk_drew ?_ | refine blk_alloc ?_ _)); exact BK220.out) hb); have n1_ := Aside0.mk (below_step (by repeat (first | (with_reducible first | exact HB.out | apply below_alloc | apply pw_below_drewN | apply below_drew1 | refine below_set ?_ GE220.out) | exact HB.out)) hb); clear BK220; clear HB; have BK220 := n0_; have HB := n1_; clear n0_ n1_; (try clear hb); (try clear hb2); (try clear hk); (try clear hi); have hcz75_0 : w74.cell? ⟨gb220, 0, none⟩ = some (.int .i64 a3_0) := (blk_cell BK220.out 0).trans rfl; have hcz75_1 : w74.cell? ⟨gb220, 1, none⟩ = some (.int .i64 a3_1) := (blk_cell BK220.out 1).trans rfl; have hcz75_2 : w74.cell? ⟨gb220, 2, none⟩ = some (.int .i64 a3_2) := (blk_cell BK220.out 2).trans rfl; have hcz75_3 : w74.cell? ⟨gb220, 3, none⟩ = some (.int .i64 a3_3) := (blk_cell BK220.out 3).trans rfl; have hcz75_4 : w74.cell? ⟨gb220, 4, none⟩ = some (.int .i64 a3_4) := (blk_cell BK220.out 4).trans rfl; have hcz75_5 : w74.cell? ⟨gb220, 5, none⟩ = some (.int .i64 0) := (blk_cell BK220.out 5).trans rfl; have hfz75_0 := blk_frozen BK220.out 0; have hfz75_1 := blk_frozen BK220.out 1; have hfz75_2 := blk_frozen BK220.out 2; have hfz75_3 := blk_frozen BK220.out 3; have hfz75_4 := blk_frozen BK220.out 4; have hfz75_5 := blk_frozen BK220.out 5))
                          go_ret
                          exact ⟨by first | rfl | (simp [errW_none, errW_some] <;> rfl) | (simp [*, errW_none, errW_some] <;> rfl), by repeat (first | (with_reducible first | exact HB.out | apply below_alloc | apply pw_below_drewN | apply below_drew1 | refine below_set ?_ GE220.out) | exact HB.out)⟩
                    · rw [if_neg c32] at H
                      have c32b0 : decide ((rd [t241, t242, t243, t244, t245, t246] a0) ≤ a2) = false := decide_eq_false c32
                      clear c32
                      obtain rfl := Option.some.inj H
                      have hcz76_0 : wc.cell? ⟨gb220, 0, none⟩ = some (.int .i64 a3_0) := (blk_cell BK220.out 0).trans rfl
                      have hcz76_1 : wc.cell? ⟨gb220, 1, none⟩ = some (.int .i64 a3_1) := (blk_cell BK220.out 1).trans rfl
                      have hcz76_2 : wc.cell? ⟨gb220, 2, none⟩ = some (.int .i64 a3_2) := (blk_cell BK220.out 2).trans rfl
                      have hcz76_3 : wc.cell? ⟨gb220, 3, none⟩ = some (.int .i64 a3_3) := (blk_cell BK220.out 3).trans rfl
                      have hcz76_4 : wc.cell? ⟨gb220, 4, none⟩ = some (.int .i64 a3_4) := (blk_cell BK220.out 4).trans rfl
                      have hcz76_5 : wc.cell? ⟨gb220, 5, none⟩ = some (.int .i64 a3_5) := (blk_cell BK220.out 5).trans rfl
                      have hfz76_0 := blk_frozen BK220.out 0
                      have hfz76_1 := blk_frozen BK220.out 1
                      have hfz76_2 := blk_frozen BK220.out 2
                      have hfz76_3 := blk_frozen BK220.out 3
                      have hfz76_4 := blk_frozen BK220.out 4
                      have hfz76_5 := blk_frozen BK220.out 5
                      try go_wp2
                      have n0_ : Aside0 ((wc.setCell ⟨gb220, 5, none⟩ (.int .i64 0)).heap[gb220]? = some (.cells #[.int .i64 a3_0, .int .i64 a3_1, .int .i64 a3_2, .int .i64 a3_3, .int .i64 a3_4, .int .i64 0] 26 (0, 0))) := ⟨by (with_reducible repeat (first | refine blk_drewN ?_ _ | refine blk_drew ?_ | refine blk_alloc ?_ _)); refine blk_put (cs := #[.int .i64 a3_0, .int .i64 a3_1, .int .i64 a3_2, .int .i64 a3_3, .int .i64 a3_4, .int .i64 a3_5]) ?_ 5 _ rfl; (with_reducible repeat (first | refine blk_drewN ?_ _ | refine blk_drew ?_ | refine blk_alloc ?_ _)); exact BK220.out⟩
                      have n1_ : Aside0 (Below w.heap.size w (wc.setCell ⟨gb220, 5, none⟩ (.int .i64 0))) := ⟨by repeat (first | (with_reducible first | exact HB.out | apply below_alloc | apply pw_below_drewN | apply below_drew1 | refine below_set ?_ GE220.out) | exact HB.out)⟩
                      (try clear BK220)
                      (try clear HB)
                      generalize (wc.setCell ⟨gb220, 5, none⟩ (.int .i64 0)) = w77 at n0_ n1_ ⊢
                      have BK220 := n0_
                      have HB := n1_
                      clear n0_ n1_
                      have n0_ := Aside0.mk (blk_drew BK220.out)
                      have n1_ := Aside0.mk (below_drew1 HB.out)
                      clear BK220
                      clear HB
                      have BK220 := n0_
                      have HB := n1_
                      clear n0_ n1_
                      refine start_ (n := 15) (S := fun w' => w'.cell? ⟨gb220, 0, none⟩ = some (.int .i64 a3_0) ∧ w'.cell? ⟨gb220, 1, none⟩ = some (.int .i64 a3_1) ∧ w'.cell? ⟨gb220, 2, none⟩ = some (.int .i64 a3_2) ∧ w'.cell? ⟨gb220, 3, none⟩ = some (.int .i64 a3_3) ∧ w'.cell? ⟨gb220, 4, none⟩ = some (.int .i64 a3_4) ∧ w'.cell? ⟨gb220, 5, none⟩ = some (.int .i64 0)) (ds := []) #[false, false, false, false, false, false, false, false, false, false, false, false, false, false, false] (by kernel_rfl) rfl rfl ⟨(blk_cell BK220.out 0).trans rfl, (blk_cell BK220.out 1).trans rfl, (blk_cell BK220.out 2).trans rfl, (blk_cell BK220.out 3).trans rfl, (blk_cell BK220.out 4).trans rfl, (blk_cell BK220.out 5).trans rfl⟩ (fun hHeld => ?_); refine with_tabW laws_FnRange.tab4 laws_FnRange.bits4 (fun HT_ HW_ => ?_)
                      generalize w77.drew = w78 at BK220 HB hHeld ⊢
                      refine pure_ (i := 0) (N := some 43) (v := ?_) (a' := ?_) #[true, false, false, false, false, false, false, false, false, false, false, false, false, false, false] rfl rfl (any_of HT_.out (by kernel_rfl)) (fun _ _ _ h => h) (Or.inl ⟨by rfl, ?_⟩) ?_ ?_
                      rotate_left
                      · intro w'
                        go_simp
                        with_reducible rfl
                      rotate_left
                      · simp only [Act.put, List.setIfInBounds_toArray, List.set_cons_zero, List.set_cons_succ, i64_w, i32_w]
                        rfl
                      refine pure_ (i := 1) (N := some 44) (v := ?_) (a' := ?_) #[true, true, false, false, false, false, false, false, false, false, false, false, false, false, false] rfl rfl (any_of HT_.out (by kernel_rfl)) (fun _ _ _ h => h) (Or.inl ⟨by rfl, ?_⟩) ?_ ?_
                      rotate_left
                      · intro w'
                        go_simp
                        with_reducible rfl
                      rotate_left
                      · simp only [Act.put, List.setIfInBounds_toArray, List.set_cons_zero, List.set_cons_succ, i64_w, i32_w]
                        rfl
                      refine pure_ (i := 4) (N := some 47) (v := ?_) (a' := ?_) #[true, true, false, false, true, false, false, false, false, false, false, false, false, false, false] rfl rfl (any_of HT_.out (by kernel_rfl)) (fun _ _ _ h => h) (Or.inl ⟨by rfl, ?_⟩) ?_ ?_
                      rotate_left
                      · intro w'
                        go_simp
                        with_reducible rfl
                      rotate_left
                      · simp only [Act.put, List.setIfInBounds_toArray, List.set_cons_zero, List.set_cons_succ, i64_w, i32_w]
                        rfl
                      refine take_ (i := 8) (N := some 51) (v := ?_) (a' := ?_) #[true, true, false, false, true, false, false, false, true, false, false, false, false, false, false] rfl rfl (take_ofW HT_.out HW_.out (by kernel_rfl)) (fun _ _ _ h => h) (Or.inl ⟨by rfl, ?_⟩) hHeld ?_ ?_
                      rotate_left
                      · rintro w' ⟨s0, s1, s2, s3, s4, s5⟩
                        go_simp
                        with_reducible rfl
                      rotate_left
                      · simp only [Act.put, List.setIfInBounds_toArray, List.set_cons_zero, List.set_cons_succ, i64_w, i32_w]
                        rfl
                      refine one_ (i := 2) (N := some 45) #[true, true, true, false, true, false, false, false, true, false, false, false, false, false, false] rfl rfl (one_of HT_.out (by kernel_rfl)) (by decide) (fun K hK => ?_)
                      refine goes_ Tryz.func24 (by kernel_rfl) rfl #[.int .i64 a1] (by rfl) rfl rfl (by (try simp only [List.map_toArray, List.map_cons, List.map_nil]); first | done | rfl | (simp only [List.length_drop, List.length_take]; rfl)) ?_
                      with_reducible refine (spec_Decimal.calls kj4 a1 t230 _ A20.out).mono ?_
                      rintro e w' ⟨rfl, ⟨nd, rfl⟩⟩
                      refine ⟨_, rfl, ?_⟩
                      refine hK.out _ _ ⟨(blk_cell BK220.out 0).trans rfl, (blk_cell BK220.out 1).trans rfl, (blk_cell BK220.out 2).trans rfl, (blk_cell BK220.out 3).trans rfl, (blk_cell BK220.out 4).trans rfl, (blk_cell BK220.out 5).trans rfl⟩ (fun hHeld => ?_)
                      clear hK K
                      refine norm_ (a' := ?_) ?_ ?_
                      rotate_left
                      · show Act.put _ (some 45) _ = _
                        simp only [Act.put, List.setIfInBounds_toArray, List.set_cons_zero, List.set_cons_succ, i64_w, i32_w]
                        rfl
                      refine pure_ (i := 3) (N := some 46) (v := ?_) (a' := ?_) #[true, true, true, true, true, false, false, false, true, false, false, false, false, false, false] rfl rfl (any_of HT_.out (by kernel_rfl)) (fun _ _ _ h => h) (Or.inl ⟨by rfl, ?_⟩) ?_ ?_
                      rotate_left
                      · intro w'
                        go_simp
                        with_reducible rfl
                      rotate_left
                      · simp only [Act.put, List.setIfInBounds_toArray, List.set_cons_zero, List.set_cons_succ, i64_w, i32_w]
                        rfl
                      refine one_ (i := 5) (N := some 48) #[true, true, true, true, true, true, false, false, true, false, false, false, false, false, false] rfl rfl (one_of HT_.out (by kernel_rfl)) (by decide) (fun K hK => ?_)
                      refine goes_ Tryz.func24 (by kernel_rfl) rfl #[.int .i64 a2] (by rfl) rfl rfl (by (try simp only [List.map_toArray, List.map_cons, List.map_nil]); first | done | rfl | (simp only [List.length_drop, List.length_take]; rfl)) ?_
                      with_reducible refine (spec_Decimal.calls kj4 a2 t231 _ A22.out).mono ?_
                      rintro e w' ⟨rfl, ⟨nd, rfl⟩⟩
                      refine ⟨_, rfl, ?_⟩
                      refine hK.out _ _ ⟨(blk_cell BK220.out 0).trans rfl, (blk_cell BK220.out 1).trans rfl, (blk_cell BK220.out 2).trans rfl, (blk_cell BK220.out 3).trans rfl, (blk_cell BK220.out 4).trans rfl, (blk_cell BK220.out 5).trans rfl⟩ (fun hHeld => ?_)
                      clear hK K
                      refine norm_ (a' := ?_) ?_ ?_
                      rotate_left
                      · show Act.put _ (some 48) _ = _
                        simp only [Act.put, List.setIfInBounds_toArray, List.set_cons_zero, List.set_cons_succ, i64_w, i32_w]
                        rfl
                      refine pure_ (i := 6) (N := some 49) (v := ?_) (a' := ?_) #[true, true, true, true, true, true, true, false, true, false, false, false, false, false, false] rfl rfl (any_of HT_.out (by kernel_rfl)) (fun _ _ _ h => h) (Or.inl ⟨by rfl, ?_⟩) ?_ ?_
                      rotate_left
                      · intro w'
                        go_simp
                        with_reducible rfl
                      rotate_left
                      · simp only [Act.put, List.setIfInBounds_toArray, List.set_cons_zero, List.set_cons_succ, i64_w, i32_w]
                        rfl
                      refine one_ (i := 7) (N := some 50) #[true, true, true, true, true, true, true, true, true, false, false, false, false, false, false] rfl rfl (one_of HT_.out (by kernel_rfl)) (by decide) (fun K hK => ?_)
                      refine goes_ Tryz.func23 (by kernel_rfl) rfl #[.int .i64 a0, .string ((t230 ++ (⟨#[45]⟩ : ByteArray)) ++ t231)] (by rfl) rfl rfl (by (try simp only [List.map_toArray, List.map_cons, List.map_nil]); first | done | rfl | (simp only [List.length_drop, List.length_take]; rfl)) ?_
                      with_reducible refine (laws_stars.calls kj4 a0 ((t230 ++ (⟨#[45]⟩ : ByteArray)) ++ t231) t232 _ A24.out).mono ?_
                      rintro e w' ⟨rfl, ⟨nd, rfl⟩⟩
                      refine ⟨_, rfl, ?_⟩
                      refine hK.out _ _ ⟨(blk_cell BK220.out 0).trans rfl, (blk_cell BK220.out 1).trans rfl, (blk_cell BK220.out 2).trans rfl, (blk_cell BK220.out 3).trans rfl, (blk_cell BK220.out 4).trans rfl, (blk_cell BK220.out 5).trans rfl⟩ (fun hHeld => ?_)
                      clear hK K
                      refine norm_ (a' := ?_) ?_ ?_
                      rotate_left
                      · show Act.put _ (some 50) _ = _
                        simp only [Act.put, List.setIfInBounds_toArray, List.set_cons_zero, List.set_cons_succ, i64_w, i32_w]
                        rfl
                      refine one_ (i := 9) (N := some 52) #[true, true, true, true, true, true, true, true, true, true, false, false, false, false, false] rfl rfl (one_of HT_.out (by kernel_rfl)) (by decide) (fun K hK => ?_)
                      refine goes_ Tryz.func14 (by kernel_rfl) rfl #[.string t232, .agg #[.int .i64 a3_0, .int .i64 a3_1, .int .i64 a3_2, .int .i64 a3_3, .int .i64 a3_4, .int .i64 0]] (by rfl) rfl rfl (by (try simp only [List.map_toArray, List.map_cons, List.map_nil]); first | done | rfl | (simp only [List.length_drop, List.length_take]; rfl)) ?_
                      with_reducible refine (impl_Due.calls t232 a3_0 a3_1 a3_2 a3_3 a3_4 0 t233 true _ A25.out).mono ?_
                      rintro e w79 ⟨rfl, hb⟩
                      refine ⟨_, rfl, ?_⟩
                      have n0_ := Aside0.mk (blk_below (g := gb220) (o := .cells #[.int .i64 a3_0, .int .i64 a3_1, .int .i64 a3_2, .int .i64 a3_3, .int .i64 a3_4, .int .i64 0] 26 (0, 0)) (by (with_reducible repeat (first | refine blk_drewN ?_ _ | refine blk_drew ?_ | refine blk_alloc ?_ _)); exact BK220.out) hb)
                      have n1_ := Aside0.mk (below_step (by repeat (first | (with_reducible first | exact HB.out | apply below_alloc | apply pw_below_drewN | apply below_drew1 | refine below_set ?_ GE220.out) | exact HB.out)) hb)
                      clear BK220
                      clear HB
                      have BK220 := n0_
                      have HB := n1_
                      clear n0_ n1_
                      (try clear hb)
                      (try clear hb2)
                      (try clear hk)
                      (try clear hi)
                      refine hK.out _ _ ⟨(blk_cell BK220.out 0).trans rfl, (blk_cell BK220.out 1).trans rfl, (blk_cell BK220.out 2).trans rfl, (blk_cell BK220.out 3).trans rfl, (blk_cell BK220.out 4).trans rfl, (blk_cell BK220.out 5).trans rfl⟩ (fun hHeld => ?_)
                      clear hK K
                      refine norm_ (a' := ?_) ?_ ?_
                      rotate_left
                      · show Act.put _ (some 52) _ = _
                        simp only [Act.put, List.setIfInBounds_toArray, List.set_cons_zero, List.set_cons_succ, i64_w, i32_w]
                        rfl
                      refine pure_ (i := 10) (N := some 42) (v := ?_) (a' := ?_) #[true, true, true, true, true, true, true, true, true, true, true, false, false, false, false] rfl rfl (any_of HT_.out (by kernel_rfl)) (fun _ _ _ h => h) (Or.inl ⟨by rfl, ?_⟩) ?_ ?_
                      rotate_left
                      · intro w'
                        go_simp
                        with_reducible rfl
                      rotate_left
                      · simp only [Act.put, List.setIfInBounds_toArray, List.set_cons_zero, List.set_cons_succ, i64_w, i32_w]
                        rfl
                      refine pure_ (i := 11) (N := some 53) (v := ?_) (a' := ?_) #[true, true, true, true, true, true, true, true, true, true, true, true, false, false, false] rfl rfl (any_of HT_.out (by kernel_rfl)) (fun _ _ _ h => h) (Or.inl ⟨by rfl, ?_⟩) ?_ ?_
                      rotate_left
                      · intro w'
                        go_simp
                        with_reducible rfl
                      rotate_left
                      · simp only [Act.put, List.setIfInBounds_toArray, List.set_cons_zero, List.set_cons_succ, i64_w, i32_w]
                        rfl
                      refine pure_ (i := 12) (N := some 54) (v := ?_) (a' := ?_) #[true, true, true, true, true, true, true, true, true, true, true, true, true, false, false] rfl rfl (any_of HT_.out (by kernel_rfl)) (fun _ _ _ h => h) (Or.inl ⟨by rfl, ?_⟩) ?_ ?_
                      rotate_left
                      · intro w'
                        go_simp
                        with_reducible rfl
                      rotate_left
                      · simp only [Act.put, List.setIfInBounds_toArray, List.set_cons_zero, List.set_cons_succ, i64_w, i32_w]
                        rfl
                      refine pure_ (i := 13) (N := some 9) (v := ?_) (a' := ?_) #[true, true, true, true, true, true, true, true, true, true, true, true, true, true, false] rfl rfl (any_of HT_.out (by kernel_rfl)) (fun _ _ _ h => h) (Or.inl ⟨by rfl, ?_⟩) ?_ ?_
                      rotate_left
                      · intro w'
                        go_simp
                        with_reducible rfl
                      rotate_left
                      · simp only [Act.put, List.setIfInBounds_toArray, List.set_cons_zero, List.set_cons_succ, i64_w, i32_w]
                        rfl
                      refine pure_ (i := 14) (N := some 10) (v := ?_) (a' := ?_) #[true, true, true, true, true, true, true, true, true, true, true, true, true, true, true] rfl rfl (any_of HT_.out (by kernel_rfl)) (fun _ _ _ h => h) (Or.inl ⟨by rfl, ?_⟩) ?_ ?_
                      rotate_left
                      · intro w'
                        go_simp
                        with_reducible rfl
                      rotate_left
                      · simp only [Act.put, List.setIfInBounds_toArray, List.set_cons_zero, List.set_cons_succ, i64_w, i32_w]
                        rfl
                      refine done_ (done_of HT_.out (by kernel_rfl)) ?_
                      have hcz80_0 : w79.cell? ⟨gb220, 0, none⟩ = some (.int .i64 a3_0) := (blk_cell BK220.out 0).trans rfl
                      have hcz80_1 : w79.cell? ⟨gb220, 1, none⟩ = some (.int .i64 a3_1) := (blk_cell BK220.out 1).trans rfl
                      have hcz80_2 : w79.cell? ⟨gb220, 2, none⟩ = some (.int .i64 a3_2) := (blk_cell BK220.out 2).trans rfl
                      have hcz80_3 : w79.cell? ⟨gb220, 3, none⟩ = some (.int .i64 a3_3) := (blk_cell BK220.out 3).trans rfl
                      have hcz80_4 : w79.cell? ⟨gb220, 4, none⟩ = some (.int .i64 a3_4) := (blk_cell BK220.out 4).trans rfl
                      have hcz80_5 : w79.cell? ⟨gb220, 5, none⟩ = some (.int .i64 0) := (blk_cell BK220.out 5).trans rfl
                      have hfz80_0 := blk_frozen BK220.out 0
                      have hfz80_1 := blk_frozen BK220.out 1
                      have hfz80_2 := blk_frozen BK220.out 2
                      have hfz80_3 := blk_frozen BK220.out 3
                      have hfz80_4 := blk_frozen BK220.out 4
                      have hfz80_5 := blk_frozen BK220.out 5
                      try go_wp2_with (first | ((with_reducible refine gate_callee (f := 19) rfl ?_); refine goesL_ (some 56) rfl rfl Tryz.func19 (by kernel_rfl) rfl #[.agg #[.int .i64 a3_0, .int .i64 a3_1, .int .i64 a3_2, .int .i64 a3_3, .int .i64 a3_4, .int .i64 0]] rfl (by (try simp only [List.map_toArray, List.map_cons, List.map_nil]); first | done | rfl | (simp only [List.length_drop, List.length_take]; rfl)) ?_; (with_reducible refine (laws_moment.calls a3_0 a3_1 a3_2 a3_3 a3_4 0 t235 t236 t237 t238 t239 t240 _ A26.out).mono ?_); rintro e w81 ⟨rfl, hb⟩; refine ⟨_, rfl, ?_⟩; have n0_ := Aside0.mk (blk_below (g := gb220) (o := .cells #[.int .i64 a3_0, .int .i64 a3_1, .int .i64 a3_2, .int .i64 a3_3, .int .i64 a3_4, .int .i64 0] 26 (0, 0)) (by (with_reducible repeat (first | refine blk_drewN ?_ _ | refine blk_drew ?_ | refine blk_alloc ?_ _)); exact BK220.out) hb); have n1_ := Aside0.mk (below_step (by repeat (first | (with_reducible first | exact HB.out | apply below_alloc | apply pw_below_drewN | apply below_drew1 | refine below_set ?_ GE220.out) | exact HB.out)) hb); clear BK220; clear HB; have BK220 := n0_; have HB := n1_; clear n0_ n1_; (try clear hb); (try clear hb2); (try clear hk); (try clear hi)) | ((with_reducible refine gate_callee (f := 25) rfl ?_); refine goesL_ (some 57) rfl rfl Tryz.func25 (by kernel_rfl) rfl #[.agg #[.int .i64 t235, .int .i64 t236, .int .i64 t237, .int .i64 t238, .int .i64 t239, .int .i64 t240]] rfl (by (try simp only [List.map_toArray, List.map_cons, List.map_nil]); first | done | rfl | (simp only [List.length_drop, List.length_take]; rfl)) ?_; (with_reducible refine (laws_numbers.calls kj4 t235 t236 t237 t238 t239 t240 t241 t242 t243 t244 t245 t246 _ A27.out).mono ?_); rintro e w82 ⟨rfl, hb⟩; refine ⟨_, rfl, ?_⟩; have n0_ := Aside0.mk (blk_below (g := gb220) (o := .cells #[.int .i64 a3_0, .int .i64 a3_1, .int .i64 a3_2, .int .i64 a3_3, .int .i64 a3_4, .int .i64 0] 26 (0, 0)) (by (with_reducible repeat (first | refine blk_drewN ?_ _ | refine blk_drew ?_ | refine blk_alloc ?_ _)); exact BK220.out) hb); have n1_ := Aside0.mk (below_step (by repeat (first | (with_reducible first | exact HB.out | apply below_alloc | apply pw_below_drewN | apply below_drew1 | refine below_set ?_ GE220.out) | exact HB.out)) hb); clear BK220; clear HB; have BK220 := n0_; have HB := n1_; clear n0_ n1_; (try clear hb); (try clear hb2); (try clear hk); (try clear hi)))
                      go_ret
                      exact ⟨by first | rfl | (simp [errW_none, errW_some] <;> rfl) | (simp [*, errW_none, errW_some] <;> rfl), by repeat (first | (with_reducible first | exact HB.out | apply below_alloc | apply pw_below_drewN | apply below_drew1 | refine below_set ?_ GE220.out) | exact HB.out)⟩
                  · rw [if_neg c31] at H
                    have c31b0 : decide (a1 ≤ (rd [t241, t242, t243, t244, t245, t246] a0)) = false := decide_eq_false c31
                    clear c31
                    obtain rfl := Option.some.inj H
                    have hcz83_0 : wc.cell? ⟨gb220, 0, none⟩ = some (.int .i64 a3_0) := (blk_cell BK220.out 0).trans rfl
                    have hcz83_1 : wc.cell? ⟨gb220, 1, none⟩ = some (.int .i64 a3_1) := (blk_cell BK220.out 1).trans rfl
                    have hcz83_2 : wc.cell? ⟨gb220, 2, none⟩ = some (.int .i64 a3_2) := (blk_cell BK220.out 2).trans rfl
                    have hcz83_3 : wc.cell? ⟨gb220, 3, none⟩ = some (.int .i64 a3_3) := (blk_cell BK220.out 3).trans rfl
                    have hcz83_4 : wc.cell? ⟨gb220, 4, none⟩ = some (.int .i64 a3_4) := (blk_cell BK220.out 4).trans rfl
                    have hcz83_5 : wc.cell? ⟨gb220, 5, none⟩ = some (.int .i64 a3_5) := (blk_cell BK220.out 5).trans rfl
                    have hfz83_0 := blk_frozen BK220.out 0
                    have hfz83_1 := blk_frozen BK220.out 1
                    have hfz83_2 := blk_frozen BK220.out 2
                    have hfz83_3 := blk_frozen BK220.out 3
                    have hfz83_4 := blk_frozen BK220.out 4
                    have hfz83_5 := blk_frozen BK220.out 5
                    try go_wp2
                    have n0_ : Aside0 ((wc.setCell ⟨gb220, 5, none⟩ (.int .i64 0)).heap[gb220]? = some (.cells #[.int .i64 a3_0, .int .i64 a3_1, .int .i64 a3_2, .int .i64 a3_3, .int .i64 a3_4, .int .i64 0] 26 (0, 0))) := ⟨by (with_reducible repeat (first | refine blk_drewN ?_ _ | refine blk_drew ?_ | refine blk_alloc ?_ _)); refine blk_put (cs := #[.int .i64 a3_0, .int .i64 a3_1, .int .i64 a3_2, .int .i64 a3_3, .int .i64 a3_4, .int .i64 a3_5]) ?_ 5 _ rfl; (with_reducible repeat (first | refine blk_drewN ?_ _ | refine blk_drew ?_ | refine blk_alloc ?_ _)); exact BK220.out⟩
                    have n1_ : Aside0 (Below w.heap.size w (wc.setCell ⟨gb220, 5, none⟩ (.int .i64 0))) := ⟨by repeat (first | (with_reducible first | exact HB.out | apply below_alloc | apply pw_below_drewN | apply below_drew1 | refine below_set ?_ GE220.out) | exact HB.out)⟩
                    (try clear BK220)
                    (try clear HB)
                    generalize (wc.setCell ⟨gb220, 5, none⟩ (.int .i64 0)) = w84 at n0_ n1_ ⊢
                    have BK220 := n0_
                    have HB := n1_
                    clear n0_ n1_
                    have n0_ := Aside0.mk (blk_drew BK220.out)
                    have n1_ := Aside0.mk (below_drew1 HB.out)
                    clear BK220
                    clear HB
                    have BK220 := n0_
                    have HB := n1_
                    clear n0_ n1_
                    refine start_ (n := 15) (S := fun w' => w'.cell? ⟨gb220, 0, none⟩ = some (.int .i64 a3_0) ∧ w'.cell? ⟨gb220, 1, none⟩ = some (.int .i64 a3_1) ∧ w'.cell? ⟨gb220, 2, none⟩ = some (.int .i64 a3_2) ∧ w'.cell? ⟨gb220, 3, none⟩ = some (.int .i64 a3_3) ∧ w'.cell? ⟨gb220, 4, none⟩ = some (.int .i64 a3_4) ∧ w'.cell? ⟨gb220, 5, none⟩ = some (.int .i64 0)) (ds := []) #[false, false, false, false, false, false, false, false, false, false, false, false, false, false, false] (by kernel_rfl) rfl rfl ⟨(blk_cell BK220.out 0).trans rfl, (blk_cell BK220.out 1).trans rfl, (blk_cell BK220.out 2).trans rfl, (blk_cell BK220.out 3).trans rfl, (blk_cell BK220.out 4).trans rfl, (blk_cell BK220.out 5).trans rfl⟩ (fun hHeld => ?_); refine with_tabW laws_FnRange.tab4 laws_FnRange.bits4 (fun HT_ HW_ => ?_)
                    generalize w84.drew = w85 at BK220 HB hHeld ⊢
                    refine pure_ (i := 0) (N := some 43) (v := ?_) (a' := ?_) #[true, false, false, false, false, false, false, false, false, false, false, false, false, false, false] rfl rfl (any_of HT_.out (by kernel_rfl)) (fun _ _ _ h => h) (Or.inl ⟨by rfl, ?_⟩) ?_ ?_
                    rotate_left
                    · intro w'
                      go_simp
                      with_reducible rfl
                    rotate_left
                    · simp only [Act.put, List.setIfInBounds_toArray, List.set_cons_zero, List.set_cons_succ, i64_w, i32_w]
                      rfl
                    refine pure_ (i := 1) (N := some 44) (v := ?_) (a' := ?_) #[true, true, false, false, false, false, false, false, false, false, false, false, false, false, false] rfl rfl (any_of HT_.out (by kernel_rfl)) (fun _ _ _ h => h) (Or.inl ⟨by rfl, ?_⟩) ?_ ?_
                    rotate_left
                    · intro w'
                      go_simp
                      with_reducible rfl
                    rotate_left
                    · simp only [Act.put, List.setIfInBounds_toArray, List.set_cons_zero, List.set_cons_succ, i64_w, i32_w]
                      rfl
                    refine pure_ (i := 4) (N := some 47) (v := ?_) (a' := ?_) #[true, true, false, false, true, false, false, false, false, false, false, false, false, false, false] rfl rfl (any_of HT_.out (by kernel_rfl)) (fun _ _ _ h => h) (Or.inl ⟨by rfl, ?_⟩) ?_ ?_
                    rotate_left
                    · intro w'
                      go_simp
                      with_reducible rfl
                    rotate_left
                    · simp only [Act.put, List.setIfInBounds_toArray, List.set_cons_zero, List.set_cons_succ, i64_w, i32_w]
                      rfl
                    refine take_ (i := 8) (N := some 51) (v := ?_) (a' := ?_) #[true, true, false, false, true, false, false, false, true, false, false, false, false, false, false] rfl rfl (take_ofW HT_.out HW_.out (by kernel_rfl)) (fun _ _ _ h => h) (Or.inl ⟨by rfl, ?_⟩) hHeld ?_ ?_
                    rotate_left
                    · rintro w' ⟨s0, s1, s2, s3, s4, s5⟩
                      go_simp
                      with_reducible rfl
                    rotate_left
                    · simp only [Act.put, List.setIfInBounds_toArray, List.set_cons_zero, List.set_cons_succ, i64_w, i32_w]
                      rfl
                    refine one_ (i := 2) (N := some 45) #[true, true, true, false, true, false, false, false, true, false, false, false, false, false, false] rfl rfl (one_of HT_.out (by kernel_rfl)) (by decide) (fun K hK => ?_)
                    refine goes_ Tryz.func24 (by kernel_rfl) rfl #[.int .i64 a1] (by rfl) rfl rfl (by (try simp only [List.map_toArray, List.map_cons, List.map_nil]); first | done | rfl | (simp only [List.length_drop, List.length_take]; rfl)) ?_
                    with_reducible refine (spec_Decimal.calls kj4 a1 t230 _ A20.out).mono ?_
                    rintro e w' ⟨rfl, ⟨nd, rfl⟩⟩
                    refine ⟨_, rfl, ?_⟩
                    refine hK.out _ _ ⟨(blk_cell BK220.out 0).trans rfl, (blk_cell BK220.out 1).trans rfl, (blk_cell BK220.out 2).trans rfl, (blk_cell BK220.out 3).trans rfl, (blk_cell BK220.out 4).trans rfl, (blk_cell BK220.out 5).trans rfl⟩ (fun hHeld => ?_)
                    clear hK K
                    refine norm_ (a' := ?_) ?_ ?_
                    rotate_left
                    · show Act.put _ (some 45) _ = _
                      simp only [Act.put, List.setIfInBounds_toArray, List.set_cons_zero, List.set_cons_succ, i64_w, i32_w]
                      rfl
                    refine pure_ (i := 3) (N := some 46) (v := ?_) (a' := ?_) #[true, true, true, true, true, false, false, false, true, false, false, false, false, false, false] rfl rfl (any_of HT_.out (by kernel_rfl)) (fun _ _ _ h => h) (Or.inl ⟨by rfl, ?_⟩) ?_ ?_
                    rotate_left
                    · intro w'
                      go_simp
                      with_reducible rfl
                    rotate_left
                    · simp only [Act.put, List.setIfInBounds_toArray, List.set_cons_zero, List.set_cons_succ, i64_w, i32_w]
                      rfl
                    refine one_ (i := 5) (N := some 48) #[true, true, true, true, true, true, false, false, true, false, false, false, false, false, false] rfl rfl (one_of HT_.out (by kernel_rfl)) (by decide) (fun K hK => ?_)
                    refine goes_ Tryz.func24 (by kernel_rfl) rfl #[.int .i64 a2] (by rfl) rfl rfl (by (try simp only [List.map_toArray, List.map_cons, List.map_nil]); first | done | rfl | (simp only [List.length_drop, List.length_take]; rfl)) ?_
                    with_reducible refine (spec_Decimal.calls kj4 a2 t231 _ A22.out).mono ?_
                    rintro e w' ⟨rfl, ⟨nd, rfl⟩⟩
                    refine ⟨_, rfl, ?_⟩
                    refine hK.out _ _ ⟨(blk_cell BK220.out 0).trans rfl, (blk_cell BK220.out 1).trans rfl, (blk_cell BK220.out 2).trans rfl, (blk_cell BK220.out 3).trans rfl, (blk_cell BK220.out 4).trans rfl, (blk_cell BK220.out 5).trans rfl⟩ (fun hHeld => ?_)
                    clear hK K
                    refine norm_ (a' := ?_) ?_ ?_
                    rotate_left
                    · show Act.put _ (some 48) _ = _
                      simp only [Act.put, List.setIfInBounds_toArray, List.set_cons_zero, List.set_cons_succ, i64_w, i32_w]
                      rfl
                    refine pure_ (i := 6) (N := some 49) (v := ?_) (a' := ?_) #[true, true, true, true, true, true, true, false, true, false, false, false, false, false, false] rfl rfl (any_of HT_.out (by kernel_rfl)) (fun _ _ _ h => h) (Or.inl ⟨by rfl, ?_⟩) ?_ ?_
                    rotate_left
                    · intro w'
                      go_simp
                      with_reducible rfl
                    rotate_left
                    · simp only [Act.put, List.setIfInBounds_toArray, List.set_cons_zero, List.set_cons_succ, i64_w, i32_w]
                      rfl
                    refine one_ (i := 7) (N := some 50) #[true, true, true, true, true, true, true, true, true, false, false, false, false, false, false] rfl rfl (one_of HT_.out (by kernel_rfl)) (by decide) (fun K hK => ?_)
                    refine goes_ Tryz.func23 (by kernel_rfl) rfl #[.int .i64 a0, .string ((t230 ++ (⟨#[45]⟩ : ByteArray)) ++ t231)] (by rfl) rfl rfl (by (try simp only [List.map_toArray, List.map_cons, List.map_nil]); first | done | rfl | (simp only [List.length_drop, List.length_take]; rfl)) ?_
                    with_reducible refine (laws_stars.calls kj4 a0 ((t230 ++ (⟨#[45]⟩ : ByteArray)) ++ t231) t232 _ A24.out).mono ?_
                    rintro e w' ⟨rfl, ⟨nd, rfl⟩⟩
                    refine ⟨_, rfl, ?_⟩
                    refine hK.out _ _ ⟨(blk_cell BK220.out 0).trans rfl, (blk_cell BK220.out 1).trans rfl, (blk_cell BK220.out 2).trans rfl, (blk_cell BK220.out 3).trans rfl, (blk_cell BK220.out 4).trans rfl, (blk_cell BK220.out 5).trans rfl⟩ (fun hHeld => ?_)
                    clear hK K
                    refine norm_ (a' := ?_) ?_ ?_
                    rotate_left
                    · show Act.put _ (some 50) _ = _
                      simp only [Act.put, List.setIfInBounds_toArray, List.set_cons_zero, List.set_cons_succ, i64_w, i32_w]
                      rfl
                    refine one_ (i := 9) (N := some 52) #[true, true, true, true, true, true, true, true, true, true, false, false, false, false, false] rfl rfl (one_of HT_.out (by kernel_rfl)) (by decide) (fun K hK => ?_)
                    refine goes_ Tryz.func14 (by kernel_rfl) rfl #[.string t232, .agg #[.int .i64 a3_0, .int .i64 a3_1, .int .i64 a3_2, .int .i64 a3_3, .int .i64 a3_4, .int .i64 0]] (by rfl) rfl rfl (by (try simp only [List.map_toArray, List.map_cons, List.map_nil]); first | done | rfl | (simp only [List.length_drop, List.length_take]; rfl)) ?_
                    with_reducible refine (impl_Due.calls t232 a3_0 a3_1 a3_2 a3_3 a3_4 0 t233 true _ A25.out).mono ?_
                    rintro e w86 ⟨rfl, hb⟩
                    refine ⟨_, rfl, ?_⟩
                    have n0_ := Aside0.mk (blk_below (g := gb220) (o := .cells #[.int .i64 a3_0, .int .i64 a3_1, .int .i64 a3_2, .int .i64 a3_3, .int .i64 a3_4, .int .i64 0] 26 (0, 0)) (by (with_reducible repeat (first | refine blk_drewN ?_ _ | refine blk_drew ?_ | refine blk_alloc ?_ _)); exact BK220.out) hb)
                    have n1_ := Aside0.mk (below_step (by repeat (first | (with_reducible first | exact HB.out | apply below_alloc | apply pw_below_drewN | apply below_drew1 | refine below_set ?_ GE220.out) | exact HB.out)) hb)
                    clear BK220
                    clear HB
                    have BK220 := n0_
                    have HB := n1_
                    clear n0_ n1_
                    (try clear hb)
                    (try clear hb2)
                    (try clear hk)
                    (try clear hi)
                    refine hK.out _ _ ⟨(blk_cell BK220.out 0).trans rfl, (blk_cell BK220.out 1).trans rfl, (blk_cell BK220.out 2).trans rfl, (blk_cell BK220.out 3).trans rfl, (blk_cell BK220.out 4).trans rfl, (blk_cell BK220.out 5).trans rfl⟩ (fun hHeld => ?_)
                    clear hK K
                    refine norm_ (a' := ?_) ?_ ?_
                    rotate_left
                    · show Act.put _ (some 52) _ = _
                      simp only [Act.put, List.setIfInBounds_toArray, List.set_cons_zero, List.set_cons_succ, i64_w, i32_w]
                      rfl
                    refine pure_ (i := 10) (N := some 42) (v := ?_) (a' := ?_) #[true, true, true, true, true, true, true, true, true, true, true, false, false, false, false] rfl rfl (any_of HT_.out (by kernel_rfl)) (fun _ _ _ h => h) (Or.inl ⟨by rfl, ?_⟩) ?_ ?_
                    rotate_left
                    · intro w'
                      go_simp
                      with_reducible rfl
                    rotate_left
                    · simp only [Act.put, List.setIfInBounds_toArray, List.set_cons_zero, List.set_cons_succ, i64_w, i32_w]
                      rfl
                    refine pure_ (i := 11) (N := some 53) (v := ?_) (a' := ?_) #[true, true, true, true, true, true, true, true, true, true, true, true, false, false, false] rfl rfl (any_of HT_.out (by kernel_rfl)) (fun _ _ _ h => h) (Or.inl ⟨by rfl, ?_⟩) ?_ ?_
                    rotate_left
                    · intro w'
                      go_simp
                      with_reducible rfl
                    rotate_left
                    · simp only [Act.put, List.setIfInBounds_toArray, List.set_cons_zero, List.set_cons_succ, i64_w, i32_w]
                      rfl
                    refine pure_ (i := 12) (N := some 54) (v := ?_) (a' := ?_) #[true, true, true, true, true, true, true, true, true, true, true, true, true, false, false] rfl rfl (any_of HT_.out (by kernel_rfl)) (fun _ _ _ h => h) (Or.inl ⟨by rfl, ?_⟩) ?_ ?_
                    rotate_left
                    · intro w'
                      go_simp
                      with_reducible rfl
                    rotate_left
                    · simp only [Act.put, List.setIfInBounds_toArray, List.set_cons_zero, List.set_cons_succ, i64_w, i32_w]
                      rfl
                    refine pure_ (i := 13) (N := some 9) (v := ?_) (a' := ?_) #[true, true, true, true, true, true, true, true, true, true, true, true, true, true, false] rfl rfl (any_of HT_.out (by kernel_rfl)) (fun _ _ _ h => h) (Or.inl ⟨by rfl, ?_⟩) ?_ ?_
                    rotate_left
                    · intro w'
                      go_simp
                      with_reducible rfl
                    rotate_left
                    · simp only [Act.put, List.setIfInBounds_toArray, List.set_cons_zero, List.set_cons_succ, i64_w, i32_w]
                      rfl
                    refine pure_ (i := 14) (N := some 10) (v := ?_) (a' := ?_) #[true, true, true, true, true, true, true, true, true, true, true, true, true, true, true] rfl rfl (any_of HT_.out (by kernel_rfl)) (fun _ _ _ h => h) (Or.inl ⟨by rfl, ?_⟩) ?_ ?_
                    rotate_left
                    · intro w'
                      go_simp
                      with_reducible rfl
                    rotate_left
                    · simp only [Act.put, List.setIfInBounds_toArray, List.set_cons_zero, List.set_cons_succ, i64_w, i32_w]
                      rfl
                    refine done_ (done_of HT_.out (by kernel_rfl)) ?_
                    have hcz87_0 : w86.cell? ⟨gb220, 0, none⟩ = some (.int .i64 a3_0) := (blk_cell BK220.out 0).trans rfl
                    have hcz87_1 : w86.cell? ⟨gb220, 1, none⟩ = some (.int .i64 a3_1) := (blk_cell BK220.out 1).trans rfl
                    have hcz87_2 : w86.cell? ⟨gb220, 2, none⟩ = some (.int .i64 a3_2) := (blk_cell BK220.out 2).trans rfl
                    have hcz87_3 : w86.cell? ⟨gb220, 3, none⟩ = some (.int .i64 a3_3) := (blk_cell BK220.out 3).trans rfl
                    have hcz87_4 : w86.cell? ⟨gb220, 4, none⟩ = some (.int .i64 a3_4) := (blk_cell BK220.out 4).trans rfl
                    have hcz87_5 : w86.cell? ⟨gb220, 5, none⟩ = some (.int .i64 0) := (blk_cell BK220.out 5).trans rfl
                    have hfz87_0 := blk_frozen BK220.out 0
                    have hfz87_1 := blk_frozen BK220.out 1
                    have hfz87_2 := blk_frozen BK220.out 2
                    have hfz87_3 := blk_frozen BK220.out 3
                    have hfz87_4 := blk_frozen BK220.out 4
                    have hfz87_5 := blk_frozen BK220.out 5
                    try go_wp2_with (first | ((with_reducible refine gate_callee (f := 19) rfl ?_); refine goesL_ (some 56) rfl rfl Tryz.func19 (by kernel_rfl) rfl #[.agg #[.int .i64 a3_0, .int .i64 a3_1, .int .i64 a3_2, .int .i64 a3_3, .int .i64 a3_4, .int .i64 0]] rfl (by (try simp only [List.map_toArray, List.map_cons, List.map_nil]); first | done | rfl | (simp only [List.length_drop, List.length_take]; rfl)) ?_; (with_reducible refine (laws_moment.calls a3_0 a3_1 a3_2 a3_3 a3_4 0 t235 t236 t237 t238 t239 t240 _ A26.out).mono ?_); rintro e w88 ⟨rfl, hb⟩; refine ⟨_, rfl, ?_⟩; have n0_ := Aside0.mk (blk_below (g := gb220) (o := .cells #[.int .i64 a3_0, .int .i64 a3_1, .int .i64 a3_2, .int .i64 a3_3, .int .i64 a3_4, .int .i64 0] 26 (0, 0)) (by (with_reducible repeat (first | refine blk_drewN ?_ _ | refine blk_drew ?_ | refine blk_alloc ?_ _)); exact BK220.out) hb); have n1_ := Aside0.mk (below_step (by repeat (first | (with_reducible first | exact HB.out | apply below_alloc | apply pw_below_drewN | apply below_drew1 | refine below_set ?_ GE220.out) | exact HB.out)) hb); clear BK220; clear HB; have BK220 := n0_; have HB := n1_; clear n0_ n1_; (try clear hb); (try clear hb2); (try clear hk); (try clear hi)) | ((with_reducible refine gate_callee (f := 25) rfl ?_); refine goesL_ (some 57) rfl rfl Tryz.func25 (by kernel_rfl) rfl #[.agg #[.int .i64 t235, .int .i64 t236, .int .i64 t237, .int .i64 t238, .int .i64 t239, .int .i64 t240]] rfl (by (try simp only [List.map_toArray, List.map_cons, List.map_nil]); first | done | rfl | (simp only [List.length_drop, List.length_take]; rfl)) ?_; (with_reducible refine (laws_numbers.calls kj4 t235 t236 t237 t238 t239 t240 t241 t242 t243 t244 t245 t246 _ A27.out).mono ?_); rintro e w89 ⟨rfl, hb⟩; refine ⟨_, rfl, ?_⟩; have n0_ := Aside0.mk (blk_below (g := gb220) (o := .cells #[.int .i64 a3_0, .int .i64 a3_1, .int .i64 a3_2, .int .i64 a3_3, .int .i64 a3_4, .int .i64 0] 26 (0, 0)) (by (with_reducible repeat (first | refine blk_drewN ?_ _ | refine blk_drew ?_ | refine blk_alloc ?_ _)); exact BK220.out) hb); have n1_ := Aside0.mk (below_step (by repeat (first | (with_reducible first | exact HB.out | apply below_alloc | apply pw_below_drewN | apply below_drew1 | refine below_set ?_ GE220.out) | exact HB.out)) hb); clear BK220; clear HB; have BK220 := n0_; have HB := n1_; clear n0_ n1_; (try clear hb); (try clear hb2); (try clear hk); (try clear hi)))
                    go_ret
                    exact ⟨by first | rfl | (simp [errW_none, errW_some] <;> rfl) | (simp [*, errW_none, errW_some] <;> rfl), by repeat (first | (with_reducible first | exact HB.out | apply below_alloc | apply pw_below_drewN | apply below_drew1 | refine below_set ?_ GE220.out) | exact HB.out)⟩
                · replace c30 := Bool.eq_false_iff.mpr c30
                  subst c30
                  have H1 : (some false) = some r := by rw [if_neg (show ¬ (false = true) by decide)] at H; exact H
                  clear H
                  have H := H1
                  clear H1
                  obtain rfl := Option.some.inj H
                  have hcz90_0 : wc.cell? ⟨gb220, 0, none⟩ = some (.int .i64 a3_0) := (blk_cell BK220.out 0).trans rfl
                  have hcz90_1 : wc.cell? ⟨gb220, 1, none⟩ = some (.int .i64 a3_1) := (blk_cell BK220.out 1).trans rfl
                  have hcz90_2 : wc.cell? ⟨gb220, 2, none⟩ = some (.int .i64 a3_2) := (blk_cell BK220.out 2).trans rfl
                  have hcz90_3 : wc.cell? ⟨gb220, 3, none⟩ = some (.int .i64 a3_3) := (blk_cell BK220.out 3).trans rfl
                  have hcz90_4 : wc.cell? ⟨gb220, 4, none⟩ = some (.int .i64 a3_4) := (blk_cell BK220.out 4).trans rfl
                  have hcz90_5 : wc.cell? ⟨gb220, 5, none⟩ = some (.int .i64 a3_5) := (blk_cell BK220.out 5).trans rfl
                  have hfz90_0 := blk_frozen BK220.out 0
                  have hfz90_1 := blk_frozen BK220.out 1
                  have hfz90_2 := blk_frozen BK220.out 2
                  have hfz90_3 := blk_frozen BK220.out 3
                  have hfz90_4 := blk_frozen BK220.out 4
                  have hfz90_5 := blk_frozen BK220.out 5
                  try go_wp2
                  have n0_ : Aside0 ((wc.setCell ⟨gb220, 5, none⟩ (.int .i64 0)).heap[gb220]? = some (.cells #[.int .i64 a3_0, .int .i64 a3_1, .int .i64 a3_2, .int .i64 a3_3, .int .i64 a3_4, .int .i64 0] 26 (0, 0))) := ⟨by (with_reducible repeat (first | refine blk_drewN ?_ _ | refine blk_drew ?_ | refine blk_alloc ?_ _)); refine blk_put (cs := #[.int .i64 a3_0, .int .i64 a3_1, .int .i64 a3_2, .int .i64 a3_3, .int .i64 a3_4, .int .i64 a3_5]) ?_ 5 _ rfl; (with_reducible repeat (first | refine blk_drewN ?_ _ | refine blk_drew ?_ | refine blk_alloc ?_ _)); exact BK220.out⟩
                  have n1_ : Aside0 (Below w.heap.size w (wc.setCell ⟨gb220, 5, none⟩ (.int .i64 0))) := ⟨by repeat (first | (with_reducible first | exact HB.out | apply below_alloc | apply pw_below_drewN | apply below_drew1 | refine below_set ?_ GE220.out) | exact HB.out)⟩
                  (try clear BK220)
                  (try clear HB)
                  generalize (wc.setCell ⟨gb220, 5, none⟩ (.int .i64 0)) = w91 at n0_ n1_ ⊢
                  have BK220 := n0_
                  have HB := n1_
                  clear n0_ n1_
                  have n0_ := Aside0.mk (blk_drew BK220.out)
                  have n1_ := Aside0.mk (below_drew1 HB.out)
                  clear BK220
                  clear HB
                  have BK220 := n0_
                  have HB := n1_
                  clear n0_ n1_
                  refine start_ (n := 15) (S := fun w' => w'.cell? ⟨gb220, 0, none⟩ = some (.int .i64 a3_0) ∧ w'.cell? ⟨gb220, 1, none⟩ = some (.int .i64 a3_1) ∧ w'.cell? ⟨gb220, 2, none⟩ = some (.int .i64 a3_2) ∧ w'.cell? ⟨gb220, 3, none⟩ = some (.int .i64 a3_3) ∧ w'.cell? ⟨gb220, 4, none⟩ = some (.int .i64 a3_4) ∧ w'.cell? ⟨gb220, 5, none⟩ = some (.int .i64 0)) (ds := []) #[false, false, false, false, false, false, false, false, false, false, false, false, false, false, false] (by kernel_rfl) rfl rfl ⟨(blk_cell BK220.out 0).trans rfl, (blk_cell BK220.out 1).trans rfl, (blk_cell BK220.out 2).trans rfl, (blk_cell BK220.out 3).trans rfl, (blk_cell BK220.out 4).trans rfl, (blk_cell BK220.out 5).trans rfl⟩ (fun hHeld => ?_); refine with_tabW laws_FnRange.tab4 laws_FnRange.bits4 (fun HT_ HW_ => ?_)
                  generalize w91.drew = w92 at BK220 HB hHeld ⊢
                  refine pure_ (i := 0) (N := some 43) (v := ?_) (a' := ?_) #[true, false, false, false, false, false, false, false, false, false, false, false, false, false, false] rfl rfl (any_of HT_.out (by kernel_rfl)) (fun _ _ _ h => h) (Or.inl ⟨by rfl, ?_⟩) ?_ ?_
                  rotate_left
                  · intro w'
                    go_simp
                    with_reducible rfl
                  rotate_left
                  · simp only [Act.put, List.setIfInBounds_toArray, List.set_cons_zero, List.set_cons_succ, i64_w, i32_w]
                    rfl
                  refine pure_ (i := 1) (N := some 44) (v := ?_) (a' := ?_) #[true, true, false, false, false, false, false, false, false, false, false, false, false, false, false] rfl rfl (any_of HT_.out (by kernel_rfl)) (fun _ _ _ h => h) (Or.inl ⟨by rfl, ?_⟩) ?_ ?_
                  rotate_left
                  · intro w'
                    go_simp
                    with_reducible rfl
                  rotate_left
                  · simp only [Act.put, List.setIfInBounds_toArray, List.set_cons_zero, List.set_cons_succ, i64_w, i32_w]
                    rfl
                  refine pure_ (i := 4) (N := some 47) (v := ?_) (a' := ?_) #[true, true, false, false, true, false, false, false, false, false, false, false, false, false, false] rfl rfl (any_of HT_.out (by kernel_rfl)) (fun _ _ _ h => h) (Or.inl ⟨by rfl, ?_⟩) ?_ ?_
                  rotate_left
                  · intro w'
                    go_simp
                    with_reducible rfl
                  rotate_left
                  · simp only [Act.put, List.setIfInBounds_toArray, List.set_cons_zero, List.set_cons_succ, i64_w, i32_w]
                    rfl
                  refine take_ (i := 8) (N := some 51) (v := ?_) (a' := ?_) #[true, true, false, false, true, false, false, false, true, false, false, false, false, false, false] rfl rfl (take_ofW HT_.out HW_.out (by kernel_rfl)) (fun _ _ _ h => h) (Or.inl ⟨by rfl, ?_⟩) hHeld ?_ ?_
                  rotate_left
                  · rintro w' ⟨s0, s1, s2, s3, s4, s5⟩
                    go_simp
                    with_reducible rfl
                  rotate_left
                  · simp only [Act.put, List.setIfInBounds_toArray, List.set_cons_zero, List.set_cons_succ, i64_w, i32_w]
                    rfl
                  refine one_ (i := 2) (N := some 45) #[true, true, true, false, true, false, false, false, true, false, false, false, false, false, false] rfl rfl (one_of HT_.out (by kernel_rfl)) (by decide) (fun K hK => ?_)
                  refine goes_ Tryz.func24 (by kernel_rfl) rfl #[.int .i64 a1] (by rfl) rfl rfl (by (try simp only [List.map_toArray, List.map_cons, List.map_nil]); first | done | rfl | (simp only [List.length_drop, List.length_take]; rfl)) ?_
                  with_reducible refine (spec_Decimal.calls kj4 a1 t230 _ A20.out).mono ?_
                  rintro e w' ⟨rfl, ⟨nd, rfl⟩⟩
                  refine ⟨_, rfl, ?_⟩
                  refine hK.out _ _ ⟨(blk_cell BK220.out 0).trans rfl, (blk_cell BK220.out 1).trans rfl, (blk_cell BK220.out 2).trans rfl, (blk_cell BK220.out 3).trans rfl, (blk_cell BK220.out 4).trans rfl, (blk_cell BK220.out 5).trans rfl⟩ (fun hHeld => ?_)
                  clear hK K
                  refine norm_ (a' := ?_) ?_ ?_
                  rotate_left
                  · show Act.put _ (some 45) _ = _
                    simp only [Act.put, List.setIfInBounds_toArray, List.set_cons_zero, List.set_cons_succ, i64_w, i32_w]
                    rfl
                  refine pure_ (i := 3) (N := some 46) (v := ?_) (a' := ?_) #[true, true, true, true, true, false, false, false, true, false, false, false, false, false, false] rfl rfl (any_of HT_.out (by kernel_rfl)) (fun _ _ _ h => h) (Or.inl ⟨by rfl, ?_⟩) ?_ ?_
                  rotate_left
                  · intro w'
                    go_simp
                    with_reducible rfl
                  rotate_left
                  · simp only [Act.put, List.setIfInBounds_toArray, List.set_cons_zero, List.set_cons_succ, i64_w, i32_w]
                    rfl
                  refine one_ (i := 5) (N := some 48) #[true, true, true, true, true, true, false, false, true, false, false, false, false, false, false] rfl rfl (one_of HT_.out (by kernel_rfl)) (by decide) (fun K hK => ?_)
                  refine goes_ Tryz.func24 (by kernel_rfl) rfl #[.int .i64 a2] (by rfl) rfl rfl (by (try simp only [List.map_toArray, List.map_cons, List.map_nil]); first | done | rfl | (simp only [List.length_drop, List.length_take]; rfl)) ?_
                  with_reducible refine (spec_Decimal.calls kj4 a2 t231 _ A22.out).mono ?_
                  rintro e w' ⟨rfl, ⟨nd, rfl⟩⟩
                  refine ⟨_, rfl, ?_⟩
                  refine hK.out _ _ ⟨(blk_cell BK220.out 0).trans rfl, (blk_cell BK220.out 1).trans rfl, (blk_cell BK220.out 2).trans rfl, (blk_cell BK220.out 3).trans rfl, (blk_cell BK220.out 4).trans rfl, (blk_cell BK220.out 5).trans rfl⟩ (fun hHeld => ?_)
                  clear hK K
                  refine norm_ (a' := ?_) ?_ ?_
                  rotate_left
                  · show Act.put _ (some 48) _ = _
                    simp only [Act.put, List.setIfInBounds_toArray, List.set_cons_zero, List.set_cons_succ, i64_w, i32_w]
                    rfl
                  refine pure_ (i := 6) (N := some 49) (v := ?_) (a' := ?_) #[true, true, true, true, true, true, true, false, true, false, false, false, false, false, false] rfl rfl (any_of HT_.out (by kernel_rfl)) (fun _ _ _ h => h) (Or.inl ⟨by rfl, ?_⟩) ?_ ?_
                  rotate_left
                  · intro w'
                    go_simp
                    with_reducible rfl
                  rotate_left
                  · simp only [Act.put, List.setIfInBounds_toArray, List.set_cons_zero, List.set_cons_succ, i64_w, i32_w]
                    rfl
                  refine one_ (i := 7) (N := some 50) #[true, true, true, true, true, true, true, true, true, false, false, false, false, false, false] rfl rfl (one_of HT_.out (by kernel_rfl)) (by decide) (fun K hK => ?_)
                  refine goes_ Tryz.func23 (by kernel_rfl) rfl #[.int .i64 a0, .string ((t230 ++ (⟨#[45]⟩ : ByteArray)) ++ t231)] (by rfl) rfl rfl (by (try simp only [List.map_toArray, List.map_cons, List.map_nil]); first | done | rfl | (simp only [List.length_drop, List.length_take]; rfl)) ?_
                  with_reducible refine (laws_stars.calls kj4 a0 ((t230 ++ (⟨#[45]⟩ : ByteArray)) ++ t231) t232 _ A24.out).mono ?_
                  rintro e w' ⟨rfl, ⟨nd, rfl⟩⟩
                  refine ⟨_, rfl, ?_⟩
                  refine hK.out _ _ ⟨(blk_cell BK220.out 0).trans rfl, (blk_cell BK220.out 1).trans rfl, (blk_cell BK220.out 2).trans rfl, (blk_cell BK220.out 3).trans rfl, (blk_cell BK220.out 4).trans rfl, (blk_cell BK220.out 5).trans rfl⟩ (fun hHeld => ?_)
                  clear hK K
                  refine norm_ (a' := ?_) ?_ ?_
                  rotate_left
                  · show Act.put _ (some 50) _ = _
                    simp only [Act.put, List.setIfInBounds_toArray, List.set_cons_zero, List.set_cons_succ, i64_w, i32_w]
                    rfl
                  refine one_ (i := 9) (N := some 52) #[true, true, true, true, true, true, true, true, true, true, false, false, false, false, false] rfl rfl (one_of HT_.out (by kernel_rfl)) (by decide) (fun K hK => ?_)
                  refine goes_ Tryz.func14 (by kernel_rfl) rfl #[.string t232, .agg #[.int .i64 a3_0, .int .i64 a3_1, .int .i64 a3_2, .int .i64 a3_3, .int .i64 a3_4, .int .i64 0]] (by rfl) rfl rfl (by (try simp only [List.map_toArray, List.map_cons, List.map_nil]); first | done | rfl | (simp only [List.length_drop, List.length_take]; rfl)) ?_
                  with_reducible refine (impl_Due.calls t232 a3_0 a3_1 a3_2 a3_3 a3_4 0 t233 false _ A25.out).mono ?_
                  rintro e w93 ⟨rfl, hb⟩
                  refine ⟨_, rfl, ?_⟩
                  have n0_ := Aside0.mk (blk_below (g := gb220) (o := .cells #[.int .i64 a3_0, .int .i64 a3_1, .int .i64 a3_2, .int .i64 a3_3, .int .i64 a3_4, .int .i64 0] 26 (0, 0)) (by (with_reducible repeat (first | refine blk_drewN ?_ _ | refine blk_drew ?_ | refine blk_alloc ?_ _)); exact BK220.out) hb)
                  have n1_ := Aside0.mk (below_step (by repeat (first | (with_reducible first | exact HB.out | apply below_alloc | apply pw_below_drewN | apply below_drew1 | refine below_set ?_ GE220.out) | exact HB.out)) hb)
                  clear BK220
                  clear HB
                  have BK220 := n0_
                  have HB := n1_
                  clear n0_ n1_
                  (try clear hb)
                  (try clear hb2)
                  (try clear hk)
                  (try clear hi)
                  refine hK.out _ _ ⟨(blk_cell BK220.out 0).trans rfl, (blk_cell BK220.out 1).trans rfl, (blk_cell BK220.out 2).trans rfl, (blk_cell BK220.out 3).trans rfl, (blk_cell BK220.out 4).trans rfl, (blk_cell BK220.out 5).trans rfl⟩ (fun hHeld => ?_)
                  clear hK K
                  refine norm_ (a' := ?_) ?_ ?_
                  rotate_left
                  · show Act.put _ (some 52) _ = _
                    simp only [Act.put, List.setIfInBounds_toArray, List.set_cons_zero, List.set_cons_succ, i64_w, i32_w]
                    rfl
                  refine pure_ (i := 10) (N := some 42) (v := ?_) (a' := ?_) #[true, true, true, true, true, true, true, true, true, true, true, false, false, false, false] rfl rfl (any_of HT_.out (by kernel_rfl)) (fun _ _ _ h => h) (Or.inl ⟨by rfl, ?_⟩) ?_ ?_
                  rotate_left
                  · intro w'
                    go_simp
                    with_reducible rfl
                  rotate_left
                  · simp only [Act.put, List.setIfInBounds_toArray, List.set_cons_zero, List.set_cons_succ, i64_w, i32_w]
                    rfl
                  refine pure_ (i := 11) (N := some 53) (v := ?_) (a' := ?_) #[true, true, true, true, true, true, true, true, true, true, true, true, false, false, false] rfl rfl (any_of HT_.out (by kernel_rfl)) (fun _ _ _ h => h) (Or.inl ⟨by rfl, ?_⟩) ?_ ?_
                  rotate_left
                  · intro w'
                    go_simp
                    with_reducible rfl
                  rotate_left
                  · simp only [Act.put, List.setIfInBounds_toArray, List.set_cons_zero, List.set_cons_succ, i64_w, i32_w]
                    rfl
                  refine pure_ (i := 12) (N := some 54) (v := ?_) (a' := ?_) #[true, true, true, true, true, true, true, true, true, true, true, true, true, false, false] rfl rfl (any_of HT_.out (by kernel_rfl)) (fun _ _ _ h => h) (Or.inl ⟨by rfl, ?_⟩) ?_ ?_
                  rotate_left
                  · intro w'
                    go_simp
                    with_reducible rfl
                  rotate_left
                  · simp only [Act.put, List.setIfInBounds_toArray, List.set_cons_zero, List.set_cons_succ, i64_w, i32_w]
                    rfl
                  refine pure_ (i := 13) (N := some 9) (v := ?_) (a' := ?_) #[true, true, true, true, true, true, true, true, true, true, true, true, true, true, false] rfl rfl (any_of HT_.out (by kernel_rfl)) (fun _ _ _ h => h) (Or.inl ⟨by rfl, ?_⟩) ?_ ?_
                  rotate_left
                  · intro w'
                    go_simp
                    with_reducible rfl
                  rotate_left
                  · simp only [Act.put, List.setIfInBounds_toArray, List.set_cons_zero, List.set_cons_succ, i64_w, i32_w]
                    rfl
                  refine pure_ (i := 14) (N := some 10) (v := ?_) (a' := ?_) #[true, true, true, true, true, true, true, true, true, true, true, true, true, true, true] rfl rfl (any_of HT_.out (by kernel_rfl)) (fun _ _ _ h => h) (Or.inl ⟨by rfl, ?_⟩) ?_ ?_
                  rotate_left
                  · intro w'
                    go_simp
                    with_reducible rfl
                  rotate_left
                  · simp only [Act.put, List.setIfInBounds_toArray, List.set_cons_zero, List.set_cons_succ, i64_w, i32_w]
                    rfl
                  refine done_ (done_of HT_.out (by kernel_rfl)) ?_
                  have hcz94_0 : w93.cell? ⟨gb220, 0, none⟩ = some (.int .i64 a3_0) := (blk_cell BK220.out 0).trans rfl
                  have hcz94_1 : w93.cell? ⟨gb220, 1, none⟩ = some (.int .i64 a3_1) := (blk_cell BK220.out 1).trans rfl
                  have hcz94_2 : w93.cell? ⟨gb220, 2, none⟩ = some (.int .i64 a3_2) := (blk_cell BK220.out 2).trans rfl
                  have hcz94_3 : w93.cell? ⟨gb220, 3, none⟩ = some (.int .i64 a3_3) := (blk_cell BK220.out 3).trans rfl
                  have hcz94_4 : w93.cell? ⟨gb220, 4, none⟩ = some (.int .i64 a3_4) := (blk_cell BK220.out 4).trans rfl
                  have hcz94_5 : w93.cell? ⟨gb220, 5, none⟩ = some (.int .i64 0) := (blk_cell BK220.out 5).trans rfl
                  have hfz94_0 := blk_frozen BK220.out 0
                  have hfz94_1 := blk_frozen BK220.out 1
                  have hfz94_2 := blk_frozen BK220.out 2
                  have hfz94_3 := blk_frozen BK220.out 3
                  have hfz94_4 := blk_frozen BK220.out 4
                  have hfz94_5 := blk_frozen BK220.out 5
                  try go_wp2_with (first | ((with_reducible refine gate_callee (f := 19) rfl ?_); refine goesL_ (some 56) rfl rfl Tryz.func19 (by kernel_rfl) rfl #[.agg #[.int .i64 a3_0, .int .i64 a3_1, .int .i64 a3_2, .int .i64 a3_3, .int .i64 a3_4, .int .i64 0]] rfl (by (try simp only [List.map_toArray, List.map_cons, List.map_nil]); first | done | rfl | (simp only [List.length_drop, List.length_take]; rfl)) ?_; (with_reducible refine (laws_moment.calls a3_0 a3_1 a3_2 a3_3 a3_4 0 t235 t236 t237 t238 t239 t240 _ A26.out).mono ?_); rintro e w95 ⟨rfl, hb⟩; refine ⟨_, rfl, ?_⟩; have n0_ := Aside0.mk (blk_below (g := gb220) (o := .cells #[.int .i64 a3_0, .int .i64 a3_1, .int .i64 a3_2, .int .i64 a3_3, .int .i64 a3_4, .int .i64 0] 26 (0, 0)) (by (with_reducible repeat (first | refine blk_drewN ?_ _ | refine blk_drew ?_ | refine blk_alloc ?_ _)); exact BK220.out) hb); have n1_ := Aside0.mk (below_step (by repeat (first | (with_reducible first | exact HB.out | apply below_alloc | apply pw_below_drewN | apply below_drew1 | refine below_set ?_ GE220.out) | exact HB.out)) hb); clear BK220; clear HB; have BK220 := n0_; have HB := n1_; clear n0_ n1_; (try clear hb); (try clear hb2); (try clear hk); (try clear hi)) | ((with_reducible refine gate_callee (f := 25) rfl ?_); refine goesL_ (some 57) rfl rfl Tryz.func25 (by kernel_rfl) rfl #[.agg #[.int .i64 t235, .int .i64 t236, .int .i64 t237, .int .i64 t238, .int .i64 t239, .int .i64 t240]] rfl (by (try simp only [List.map_toArray, List.map_cons, List.map_nil]); first | done | rfl | (simp only [List.length_drop, List.length_take]; rfl)) ?_; (with_reducible refine (laws_numbers.calls kj4 t235 t236 t237 t238 t239 t240 t241 t242 t243 t244 t245 t246 _ A27.out).mono ?_); rintro e w96 ⟨rfl, hb⟩; refine ⟨_, rfl, ?_⟩; have n0_ := Aside0.mk (blk_below (g := gb220) (o := .cells #[.int .i64 a3_0, .int .i64 a3_1, .int .i64 a3_2, .int .i64 a3_3, .int .i64 a3_4, .int .i64 0] 26 (0, 0)) (by (with_reducible repeat (first | refine blk_drewN ?_ _ | refine blk_drew ?_ | refine blk_alloc ?_ _)); exact BK220.out) hb); have n1_ := Aside0.mk (below_step (by repeat (first | (with_reducible first | exact HB.out | apply below_alloc | apply pw_below_drewN | apply below_drew1 | refine below_set ?_ GE220.out) | exact HB.out)) hb); clear BK220; clear HB; have BK220 := n0_; have HB := n1_; clear n0_ n1_; (try clear hb); (try clear hb2); (try clear hk); (try clear hi)))
                  go_ret
                  exact ⟨by first | rfl | (simp [errW_none, errW_some] <;> rfl) | (simp [*, errW_none, errW_some] <;> rfl), by repeat (first | (with_reducible first | exact HB.out | apply below_alloc | apply pw_below_drewN | apply below_drew1 | refine below_set ?_ GE220.out) | exact HB.out)⟩
              · rw [if_neg c29] at H
                exact absurd H (by simp)
            · rw [if_neg c28] at H
              exact absurd H (by simp)
          · rw [if_neg c23] at H
            exact absurd H (by simp)
        · rw [if_neg c21] at H
          exact absurd H (by simp)
end Go.Proofs.YtemgofomhjabpaaGreatDoor.Core
namespace Go.Proofs.YtemgofomhjabpaaGreatDoor.Core
open Go.RowKit Go.Proofs.YtemgofomhjabpaaGreatDoorW.PrintWords Go.Proofs.YtemgofomhjabpaaGreatDoorW.PrintLast Go.Proofs.YtemgofomhjabpaaGreatDoorW.PrintMore
attribute [local go_sem] max2_int min2_int max_two min_two max_three min_three max_four min_four   -- for this text's walks alone
set_option linter.unusedVariables false
set_option linter.unusedSimpArgs false
theorem eqA38 (d : Nat) (w : World) (x0 y0 : Bool) (x1 y1 : Int) (x2 y2 : Int) (x3 y3 : Int) :
    (Op.equalIn (d + 2) 38 (.agg #[.bool x0, .int .i64 x1, .int .i64 x2, .int .i64 x3]) (.agg #[.bool y0, .int .i64 y1, .int .i64 y2, .int .i64 y3])).run Tryz.prog w = .ok (x0 == y0 && (x1 == y1 && (x2 == y2 && (x3 == y3)))) w := by
  refine eqA_of Tryz.underlying38 (by kernel_rfl) ?_
  refine eqf_cons (by rfl) (by go_simp; rfl) (by go_simp; rfl) (by go_simp) ?_
  refine eqf_cons (by rfl) (by go_simp; rfl) (by go_simp; rfl) (by go_simp) ?_
  refine eqf_cons (by rfl) (by go_simp; rfl) (by go_simp; rfl) (by go_simp) ?_
  exact eqf_last (by rfl) (by go_simp; rfl) (by go_simp; rfl) (by go_simp)
end Go.Proofs.YtemgofomhjabpaaGreatDoor.Core
namespace Go.Proofs.YtemgofomhjabpaaGreatDoor.Core
open Go.RowKit Go.Proofs.YtemgofomhjabpaaGreatDoorW.PrintWords Go.Proofs.YtemgofomhjabpaaGreatDoorW.PrintLast Go.Proofs.YtemgofomhjabpaaGreatDoorW.PrintMore
attribute [local go_sem] max2_int min2_int max_two min_two max_three min_three max_four min_four   -- for this text's walks alone
set_option linter.unusedVariables false
set_option linter.unusedSimpArgs false
end Go.Proofs.YtemgofomhjabpaaGreatDoor.Core
namespace Go.Proofs.YtemgofomhjabpaaGreatDoor.Core
open Go.RowKit Go.Proofs.YtemgofomhjabpaaGreatDoorW.PrintWords Go.Proofs.YtemgofomhjabpaaGreatDoorW.PrintLast Go.Proofs.YtemgofomhjabpaaGreatDoorW.PrintMore
attribute [local go_sem] max2_int min2_int max_two min_two max_three min_three max_four min_four   -- for this text's walks alone
set_option linter.unusedVariables false
set_option linter.unusedSimpArgs false
end Go.Proofs.YtemgofomhjabpaaGreatDoor.Core
namespace Go.Proofs.YtemgofomhjabpaaGreatDoor.Core
open Go.RowKit Go.Proofs.YtemgofomhjabpaaGreatDoorW.PrintWords Go.Proofs.YtemgofomhjabpaaGreatDoorW.PrintLast Go.Proofs.YtemgofomhjabpaaGreatDoorW.PrintMore
attribute [local go_sem] max2_int min2_int max_two min_two max_three min_three max_four min_four   -- for this text's walks alone
set_option linter.unusedVariables false
set_option linter.unusedSimpArgs false
attribute [local go_sem high] eqA38
end Go.Proofs.YtemgofomhjabpaaGreatDoor.Core
namespace Go.Proofs.YtemgofomhjabpaaGreatDoor.Core
open Go.RowKit Go.Proofs.YtemgofomhjabpaaGreatDoorW.PrintWords Go.Proofs.YtemgofomhjabpaaGreatDoorW.PrintLast Go.Proofs.YtemgofomhjabpaaGreatDoorW.PrintMore
attribute [local go_sem] max2_int min2_int max_two min_two max_three min_three max_four min_four   -- for this text's walks alone
set_option linter.unusedVariables false
set_option linter.unusedSimpArgs false
end Go.Proofs.YtemgofomhjabpaaGreatDoor.Core
