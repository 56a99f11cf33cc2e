/- Contracts and plain lemmas of this seat (part 2), merged by wip/merge2.py; what is proved stands in the claim's last text. -/
import Derived.Test.YtkhgeonlohafgaaGreatDoorCDue1
import Derived.Test.YtkhgeonlohafgaaGreatDoorProg
import Derived.Below
import Derived.Deep.Draws
import Derived.Deep.AppendLies
import Derived.Maps.AppendAt
import Derived.OwnWalk
import Derived.Laws.BytesArg
import Derived.Laws.MakeOwn
import Derived.Laws.OwnMore
import Derived.Deep.OwnRows
import Derived.Tactics
import Derived.Lib.ConvBytes
import Derived.Laws.Slices
import Derived.WalkKit
import Derived.KernelRfl
import Derived.RowKit3
import Derived.Deep.LoopGhost
import Derived.Deep.QuietTactic
import Derived.BigQuiet
import Derived.WideLaws
import Derived.Deep.DeepCutAuto
import Derived.Deep.CutBlock
import Derived.Deep.RegionHeld3
import Derived.Laws.Rows
import Derived.Lib.AppendStr
import Derived.ArgAppend
import Derived.Laws.IdiomCopy
import Derived.OrdersHeld
import Derived.Laws.BitsLemmas
import Derived.RowKit
import Derived.ChangeKeysEq
import Derived.Barred
namespace Go.Proofs.YtkhgeonlohafgaaGreatDoor.Core
open Go.RowKit Go.Proofs.YtkhgeonlohafgaaGreatDoorW.PrintWords Go.Proofs.YtkhgeonlohafgaaGreatDoorW.PrintLast Go.Proofs.YtkhgeonlohafgaaGreatDoorW.PrintMore
attribute [local go_sem] max2_int min2_int max_two min_two max_three min_three max_four min_four   -- for this text's walks alone
set_option linter.unusedVariables false
set_option linter.unusedSimpArgs false
def errW : Option Int → Value
  | none => .nilIface
  | some c => .iface 0 (.int .i64 c)
theorem errW_none : errW none = .nilIface := rfl
theorem errW_some (c : Int) : errW (some c) = .iface 0 (.int .i64 c) := rfl
theorem info5 : (Tryz.prog.info? 5).map (fun i => (i.zero, i.size, i.bytes)) = some (some (.int .u8 0), 1, 1) := by kernel_rfl
theorem info9 : (Tryz.prog.info? 9).map (fun i => (i.zero, i.size, i.bytes)) = some (some (.string ⟨#[]⟩), 1, 16) := by kernel_rfl
theorem info55 : (Tryz.prog.info? 55).map (fun i => (i.zero, i.size, i.bytes)) = some (some (.slice none 0 0), 1, 24) := by kernel_rfl
theorem info57 : (Tryz.prog.info? 57).map (fun i => (i.zero, i.size, i.bytes)) = some (some (.agg #[(.bool false), (.int .i64 0), (.int .i64 0), (.int .i64 0)]), 4, 32) := by kernel_rfl
structure S25 where
  f0 : Int
  f1 : Int
  f2 : Int
  f3 : Int
  f4 : Int
  f5 : Int
structure S23 where
  f0 : Int
  f1 : Int
  f2 : Int
  f3 : Int
  f4 : Int
  f5 : Int
structure S67 where
  f0 : Bool
  f1 : Int
  f2 : Int
  f3 : Int
def z67 : S67 := ⟨false, (0 : Int), (0 : Int), (0 : Int)⟩
def k67 : Kd S67 := Kd.iso (Kd.pair Kd.bool (Kd.pair (Kd.int .i64) (Kd.pair (Kd.int .i64) (Kd.int .i64)))) (fun x : S67 => (x.f0, x.f1, x.f2, x.f3))
theorem k67_open {w : World} {x : S67} {cs : List Value} (h : k67.K w x cs) : cs = [.bool x.f0, .int .i64 x.f1, .int .i64 x.f2, .int .i64 x.f3] := by
  obtain ⟨_, _, rfl, rfl, ⟨_, _, rfl, rfl, ⟨_, _, rfl, rfl, rfl⟩⟩⟩ := h
  exact rfl
theorem k67_mk (w : World) (x : S67)  : k67.K w x [.bool x.f0, .int .i64 x.f1, .int .i64 x.f2, .int .i64 x.f3] := ⟨[.bool x.f0], [.int .i64 x.f1, .int .i64 x.f2, .int .i64 x.f3], rfl, rfl, ⟨[.int .i64 x.f1], [.int .i64 x.f2, .int .i64 x.f3], rfl, rfl, ⟨[.int .i64 x.f2], [.int .i64 x.f3], rfl, rfl, rfl⟩⟩⟩
def rd_T67 (xs : List S67) (i : Int) : S67 := xs.getD i.toNat z67
theorem at_T67 {w : World} {A : Option Addr} {n : Nat} {xs : List S67} (h : Kd.C k67 w A n xs) (i : Int) (h0 : 0 ≤ i) (h1 : i < n) : ∃ ad , A = some ad ∧ w.cell? (ad.add (i.toNat * 4)) = some (.bool (rd_T67 xs i).f0) ∧ w.cell? ⟨(ad.add (i.toNat * 4)).block, (ad.add (i.toNat * 4)).off + 1, none⟩ = some (.int .i64 (rd_T67 xs i).f1) ∧ w.cell? ⟨(ad.add (i.toNat * 4)).block, (ad.add (i.toNat * 4)).off + 2, none⟩ = some (.int .i64 (rd_T67 xs i).f2) ∧ w.cell? ⟨(ad.add (i.toNat * 4)).block, (ad.add (i.toNat * 4)).off + 3, none⟩ = some (.int .i64 (rd_T67 xs i).f3) := by
  obtain ⟨ad, c, e, _, hK, hc0⟩ := Kd.C_get h z67 i h0 h1
  have hc : ∀ j u, c[j]? = some u → w.cell? (ad.add (i.toNat * 4 + j)) = some u := hc0
  obtain rfl := k67_open hK
  exact ⟨ad, e, hc 0 _ rfl, by rw [← add_field _ _ 1 (by omega)]; exact hc 1 _ rfl, by rw [← add_field _ _ 2 (by omega)]; exact hc 2 _ rfl, by rw [← add_field _ _ 3 (by omega)]; exact hc 3 _ rfl⟩
def rd_L6 (xs : List (List S67)) (i : Int) : (List S67) := xs.getD i.toNat ([] : List S67)
theorem at_L6 {w : World} {A : Option Addr} {n : Nat} {xs : List (List S67)} (h : Kd.C (Kd.slice 67 k67) w A n xs) (i : Int) (h0 : 0 ≤ i) (h1 : i < n) : ∃ ad A0 c0, A = some ad ∧ w.cell? (ad.add i.toNat) = some (.slice A0 (rd_L6 xs i).length c0) ∧ (rd_L6 xs i).length ≤ c0 ∧ k67.C w A0 (rd_L6 xs i).length (rd_L6 xs i) := by
  obtain ⟨ad, c, e, _, hK, hc0⟩ := Kd.C_get h ([] : List S67) i h0 h1
  have hc : ∀ j u, c[j]? = some u → w.cell? (ad.add (i.toNat * 1 + j)) = some u := hc0
  obtain ⟨A0, c0, rfl, l0, g0⟩ := hK
  exact ⟨ad, A0, c0, e, by have hq := hc 0 _ rfl; rwa [Nat.mul_one, Nat.add_zero] at hq, l0, g0⟩
structure S57 where
  f0 : Bool
  f1 : Int
  f2 : Int
  f3 : Int
def z57 : S57 := ⟨false, (0 : Int), (0 : Int), (0 : Int)⟩
def k57 : Kd S57 := Kd.iso (Kd.pair Kd.bool (Kd.pair (Kd.int .i64) (Kd.pair (Kd.int .i64) (Kd.int .i64)))) (fun x : S57 => (x.f0, x.f1, x.f2, x.f3))
theorem k57_open {w : World} {x : S57} {cs : List Value} (h : k57.K w x cs) : cs = [.bool x.f0, .int .i64 x.f1, .int .i64 x.f2, .int .i64 x.f3] := by
  obtain ⟨_, _, rfl, rfl, ⟨_, _, rfl, rfl, ⟨_, _, rfl, rfl, rfl⟩⟩⟩ := h
  exact rfl
theorem k57_mkM (w : World) (base : Nat) (ok : Nat → Prop) (x : S57)  : k57.M w base ok x [.bool x.f0, .int .i64 x.f1, .int .i64 x.f2, .int .i64 x.f3] := ⟨[.bool x.f0], [.int .i64 x.f1, .int .i64 x.f2, .int .i64 x.f3], rfl, rfl, ⟨[.int .i64 x.f1], [.int .i64 x.f2, .int .i64 x.f3], rfl, rfl, ⟨[.int .i64 x.f2], [.int .i64 x.f3], rfl, rfl, rfl⟩⟩⟩
def rd_T57 (xs : List S57) (i : Int) : S57 := xs.getD i.toNat z57
theorem at_T57 {w : World} {A : Option Addr} {n : Nat} {xs : List S57} (h : Kd.C k57 w A n xs) (i : Int) (h0 : 0 ≤ i) (h1 : i < n) : ∃ ad , A = some ad ∧ w.cell? (ad.add (i.toNat * 4)) = some (.bool (rd_T57 xs i).f0) ∧ w.cell? ⟨(ad.add (i.toNat * 4)).block, (ad.add (i.toNat * 4)).off + 1, none⟩ = some (.int .i64 (rd_T57 xs i).f1) ∧ w.cell? ⟨(ad.add (i.toNat * 4)).block, (ad.add (i.toNat * 4)).off + 2, none⟩ = some (.int .i64 (rd_T57 xs i).f2) ∧ w.cell? ⟨(ad.add (i.toNat * 4)).block, (ad.add (i.toNat * 4)).off + 3, none⟩ = some (.int .i64 (rd_T57 xs i).f3) := by
  obtain ⟨ad, c, e, _, hK, hc0⟩ := Kd.C_get h z57 i h0 h1
  have hc : ∀ j u, c[j]? = some u → w.cell? (ad.add (i.toNat * 4 + j)) = some u := hc0
  obtain rfl := k57_open hK
  exact ⟨ad, e, hc 0 _ rfl, by rw [← add_field _ _ 1 (by omega)]; exact hc 1 _ rfl, by rw [← add_field _ _ 2 (by omega)]; exact hc 2 _ rfl, by rw [← add_field _ _ 3 (by omega)]; exact hc 3 _ rfl⟩
def rd_L8 (xs : List (List S57)) (i : Int) : (List S57) := xs.getD i.toNat ([] : List S57)
theorem at_L8 {w : World} {A : Option Addr} {n : Nat} {xs : List (List S57)} (h : Kd.C (Kd.slice 57 k57) w A n xs) (i : Int) (h0 : 0 ≤ i) (h1 : i < n) : ∃ ad A0 c0, A = some ad ∧ w.cell? (ad.add i.toNat) = some (.slice A0 (rd_L8 xs i).length c0) ∧ (rd_L8 xs i).length ≤ c0 ∧ k57.C w A0 (rd_L8 xs i).length (rd_L8 xs i) := by
  obtain ⟨ad, c, e, _, hK, hc0⟩ := Kd.C_get h ([] : List S57) i h0 h1
  have hc : ∀ j u, c[j]? = some u → w.cell? (ad.add (i.toNat * 1 + j)) = some u := hc0
  obtain ⟨A0, c0, rfl, l0, g0⟩ := hK
  exact ⟨ad, A0, c0, e, by have hq := hc 0 _ rfl; rwa [Nat.mul_one, Nat.add_zero] at hq, l0, g0⟩
def errors_New.f (_a0 : ByteArray) : Option (Option Int) := none
theorem errors_New.calls (a0 : ByteArray) (r : Option Int) (w : World) (h : errors_New.f a0 = some r) :
    Calls Tryz.prog 51 #[.string a0] w fun e w' => e = .returned (errW r) ∧ Below w.heap.size w w' := by cases h
theorem index_arr {P : Program} (t e : TypeId) (n : Nat) (k : IntKind) (l : List Int) (j : Int) (h : P.underlying t = some (.array n e)) (he : P.plainKey e = true) (hz : ∀ w, (sizeOf e).run P w = .ok 1 w) (hl : l.length = n) (h0 : 0 ≤ j) (h1 : j < n) (w : World) :
    (Instr.index t (.agg (l.map fun x => Value.int k x).toArray) (.int .i64 j)).run P w = .ok (.int k (rd l j)) w := by
  have hx : ((l.map fun x => Value.int k x).toArray)[j.toNat * 1]? = some (.int k (rd l j)) := by
    have : j.toNat < l.length := by omega
    simp [rd, this]
  have hp := run_part_plain (w := w) he hx
  have e1 : (Instr.index t (.agg (l.map fun x => Value.int k x).toArray) (.int .i64 j)).run P w = (part e (l.map fun x => Value.int k x).toArray (j.toNat * 1)).run P w := by
    simp [Instr.index, run_underlying h, asIntOf, h0, h1, hz, go_sem]
  rw [e1]
  exact hp
theorem index_T50 (x0 x1 x2 x3 x4 x5 j : Int) (h0 : 0 ≤ j) (h1 : j < 6) (w : World) : (Instr.index 50 (.agg #[.int .i64 x0, .int .i64 x1, .int .i64 x2, .int .i64 x3, .int .i64 x4, .int .i64 x5]) (.int .i64 j)).run Tryz.prog w = .ok (.int .i64 (rd [x0, x1, x2, x3, x4, x5] j)) w :=
  index_arr 50 3 6 .i64 [x0, x1, x2, x3, x4, x5] j Tryz.underlying50 (by kernel_rfl) (fun w => by simp [Tryz.sizeOf3]) rfl h0 h1 w
theorem index_T82 (x0 x1 x2 x3 x4 x5 x6 x7 x8 x9 x10 x11 x12 j : Int) (h0 : 0 ≤ j) (h1 : j < 13) (w : World) : (Instr.index 82 (.agg #[.int .i64 x0, .int .i64 x1, .int .i64 x2, .int .i64 x3, .int .i64 x4, .int .i64 x5, .int .i64 x6, .int .i64 x7, .int .i64 x8, .int .i64 x9, .int .i64 x10, .int .i64 x11, .int .i64 x12]) (.int .i64 j)).run Tryz.prog w = .ok (.int .i64 (rd [x0, x1, x2, x3, x4, x5, x6, x7, x8, x9, x10, x11, x12] j)) w :=
  index_arr 82 3 13 .i64 [x0, x1, x2, x3, x4, x5, x6, x7, x8, x9, x10, x11, x12] j Tryz.underlying82 (by kernel_rfl) (fun w => by simp [Tryz.sizeOf3]) rfl h0 h1 w
end Go.Proofs.YtkhgeonlohafgaaGreatDoor.Core
namespace Go.Proofs.YtkhgeonlohafgaaGreatDoor.Core
open Go.RowKit Go.Proofs.YtkhgeonlohafgaaGreatDoorW.PrintWords Go.Proofs.YtkhgeonlohafgaaGreatDoorW.PrintLast Go.Proofs.YtkhgeonlohafgaaGreatDoorW.PrintMore
attribute [local go_sem] max2_int min2_int max_two min_two max_three min_three max_four min_four   -- for this text's walks alone
set_option linter.unusedVariables false
set_option linter.unusedSimpArgs false
def laws_zzFits2.l0 : Nat → List (List (S67)) → Int → Int → Option (Bool)
  | 0, _, _, _ => none
  | k + 1, x8, x9, x10 => if x10 < x9 then (if 0 ≤ x10 then (if x10 < (x8.length : Int) then (if ((rd_L6 x8 x10).length : Int) > 2147483647 then (some false) else (laws_zzFits2.l0 k x8 x9 (wrap64 (x10 + 1)))) else (none)) else (none)) else (some true)
def laws_zzFits2.f (k : Nat) (l0 : List (List (S67))) : Option (Bool) := if (l0.length : Int) > 2147483647 then (some false) else (laws_zzFits2.l0 k l0 (l0.length : Int) 0)
set_option maxHeartbeats 8000000 in
set_option maxRecDepth 100000 in
theorem laws_zzFits2.calls (k : Nat) (A0 : Option Addr) (c0 : Nat) (l0 : List (List (S67))) (r : Bool) (w : World) (hr0 : Kd.C (Kd.slice 67 k67) w A0 l0.length l0) (hc0 : l0.length ≤ c0) (h : laws_zzFits2.f k l0 = some r) :
    Calls Tryz.prog 33 #[.slice A0 l0.length c0] w fun e w' => e = .returned (.bool r) ∧ Drawn0 w w' := by
  have HR0 := Aside0.mk hr0
  have HC0 := Aside0.mk hc0
  clear hr0 hc0
  have H : (if (l0.length : Int) > 2147483647 then (some false) else (laws_zzFits2.l0 k l0 (l0.length : Int) 0)) = some r := h
  clear h
  by_cases c2 : (l0.length : Int) > 2147483647
  · rw [if_pos c2] at H
    have c2b0 : decide (2147483647 < (l0.length : Int)) = true := decide_eq_true c2
    have c2b1 : decide (2147483647 < l0.length) = true := decide_eq_true (by omega)
    clear c2
    obtain rfl := Option.some.inj H
    go_enter Tryz.func33, Tryz.ntmps33
    go_wp2
    go_ret
    exact ⟨by first | rfl | (simp; done) | (simp [*]; done), by repeat (first | exact Drawn0.refl _ | apply Drawn0.step)⟩
  · rw [if_neg c2] at H
    have c2b0 : decide (2147483647 < (l0.length : Int)) = false := decide_eq_false c2
    have c2b1 : decide (2147483647 < l0.length) = false := decide_eq_false (by omega)
    clear c2
    have H' := Aside0.mk H
    clear H
    go_enter Tryz.func33, Tryz.ntmps33
    go_wp2
    go_loopg [10] k (fun kq v10 w' => ∃ (x10_1 : Int), v10 = .int .i64 x10_1 ∧ Aside0 (laws_zzFits2.l0 kq l0 (l0.length : Int) x10_1 = some r) ∧ Aside0 (kq ≤ k) ∧ Drawn0 w w')
    case atStart => exact ⟨(0), (by first | rfl | (simp; done) | (simp [*]; done)), H', ⟨Nat.le_refl _⟩, by repeat (first | exact Drawn0.refl _ | apply Drawn0.step)⟩
    case round =>
      clear H'
      try clear c2
      try clear c2b0
      try clear c2b1
      try clear p2
      obtain ⟨x10_1, rfl, HA, HK1, ⟨m1, rfl⟩⟩ := hrel
      cases gk with
      | zero => exact absurd HA.out (by simp [laws_zzFits2.l0])
      | succ k1 =>
        have H := HA.out
        clear HA
        simp only [laws_zzFits2.l0] at H
        by_cases c3 : x10_1 < (l0.length : Int)
        · rw [if_pos c3] at H
          have c3b0 : decide (x10_1 < (l0.length : Int)) = true := decide_eq_true c3
          clear c3
          by_cases c4 : 0 ≤ x10_1
          · rw [if_pos c4] at H
            have c4b0 : decide (0 ≤ x10_1) = true := decide_eq_true c4
            clear c4
            by_cases c5 : x10_1 < (l0.length : Int)
            · rw [if_pos c5] at H
              have c5b0 : decide (x10_1 < (l0.length : Int)) = true := decide_eq_true c5
              clear c5
              by_cases c6 : ((rd_L6 l0 x10_1).length : Int) > 2147483647
              · rw [if_pos c6] at H
                have c6b0 : decide (2147483647 < ((rd_L6 l0 x10_1).length : Int)) = true := decide_eq_true c6
                have c6b1 : decide (2147483647 < (rd_L6 l0 x10_1).length) = true := decide_eq_true (by omega)
                clear c6
                obtain rfl := Option.some.inj H
                have p121 : 0 ≤ (x10_1 : Int) := of_decide_eq_true (by first | (with_reducible assumption) | assumption)
                have q121 : x10_1 < (l0.length : Int) := of_decide_eq_true (by first | (with_reducible assumption) | assumption)
                obtain ⟨ad121, A121_0, c121_0, e121, hx121_0, hl121_0, hi121_0⟩ := at_L6 HR0.out x10_1 p121 q121
                cases e121
                have HR121_0 := Aside0.mk hi121_0
                have HC121_0 := Aside0.mk hl121_0
                clear hi121_0 hl121_0
                replace p121 := eq_true p121
                replace q121 := eq_true q121
                go_wp2
                go_ret
                exact ⟨by first | rfl | (simp; done) | (simp [*]; done), by repeat (first | exact Drawn0.refl _ | apply Drawn0.step)⟩
              · rw [if_neg c6] at H
                have c6b0 : decide (2147483647 < ((rd_L6 l0 x10_1).length : Int)) = false := decide_eq_false c6
                have c6b1 : decide (2147483647 < (rd_L6 l0 x10_1).length) = false := decide_eq_false (by omega)
                clear c6
                have H' := Aside0.mk H
                clear H
                have p121 : 0 ≤ (x10_1 : Int) := of_decide_eq_true (by first | (with_reducible assumption) | assumption)
                have q121 : x10_1 < (l0.length : Int) := of_decide_eq_true (by first | (with_reducible assumption) | assumption)
                obtain ⟨ad121, A121_0, c121_0, e121, hx121_0, hl121_0, hi121_0⟩ := at_L6 HR0.out x10_1 p121 q121
                cases e121
                have HR121_0 := Aside0.mk hi121_0
                have HC121_0 := Aside0.mk hl121_0
                clear hi121_0 hl121_0
                replace p121 := eq_true p121
                replace q121 := eq_true q121
                go_wp2
                go_roundg k1
                case measure => have := HK1.out; omega
                case rel => exact ⟨(wrap64 (x10_1 + 1)), (by first | rfl | (simp; done) | (simp [*]; done)), H', ⟨by have := HK1.out; omega⟩, by repeat (first | exact Drawn0.refl _ | apply Drawn0.step)⟩
            · rw [if_neg c5] at H
              exact absurd H (by simp)
          · rw [if_neg c4] at H
            exact absurd H (by simp)
        · rw [if_neg c3] at H
          have c3b0 : decide (x10_1 < (l0.length : Int)) = false := decide_eq_false c3
          clear c3
          obtain rfl := Option.some.inj H
          go_wp2
          go_ret
          exact ⟨by first | rfl | (simp; done) | (simp [*]; done), by repeat (first | exact Drawn0.refl _ | apply Drawn0.step)⟩
end Go.Proofs.YtkhgeonlohafgaaGreatDoor.Core
namespace Go.Proofs.YtkhgeonlohafgaaGreatDoor.Core
open Go.RowKit Go.Proofs.YtkhgeonlohafgaaGreatDoorW.PrintWords Go.Proofs.YtkhgeonlohafgaaGreatDoorW.PrintLast Go.Proofs.YtkhgeonlohafgaaGreatDoorW.PrintMore
attribute [local go_sem] max2_int min2_int max_two min_two max_three min_three max_four min_four   -- for this text's walks alone
set_option linter.unusedVariables false
set_option linter.unusedSimpArgs false
def laws_zzFits1.f (k : Nat) (l0_0 : List (List (S67))) (a0_1 : Bool) : Option (Bool) := (laws_zzFits2.f k l0_0).bind fun t123 => (if t123 = true then (some true) else (some false))
set_option maxHeartbeats 8000000 in
set_option maxRecDepth 100000 in
theorem laws_zzFits1.calls (k : Nat) (A0_0 : Option Addr) (c0_0 : Nat) (l0_0 : List (List (S67))) (a0_1 : Bool) (r : Bool) (w : World) (hr0_0 : Kd.C (Kd.slice 67 k67) w A0_0 l0_0.length l0_0) (hc0_0 : l0_0.length ≤ c0_0) (h : laws_zzFits1.f k l0_0 a0_1 = some r) :
    Calls Tryz.prog 19 #[.agg #[.slice A0_0 l0_0.length c0_0, .bool a0_1]] w fun e w' => e = .returned (.bool r) ∧ Below w.heap.size w w' := by
  have hu34 := Tryz.underlying34
  have HR0_0 := Aside0.mk hr0_0
  have HC0_0 := Aside0.mk hc0_0
  clear hr0_0 hc0_0
  have HB := Aside0.mk (Below.refl w.heap.size w)
  have H : ((laws_zzFits2.f k l0_0).bind fun t123 => (if t123 = true then (some true) else (some false))) = some r := h
  clear h
  replace H := Option.bind_eq_some_iff.mp H
  obtain ⟨t123, A20, H⟩ := H
  replace H : (if t123 = true then (some true) else (some false)) = some r := H
  have A2 := Aside0.mk A20
  clear A20
  by_cases c3 : t123 = true
  · subst c3
    have H1 : (some true) = some r := by rw [if_pos rfl] at H; exact H
    clear H
    have H := H1
    clear H1
    obtain rfl := Option.some.inj H
    go_enter Tryz.func19, Tryz.ntmps19
    go_wp2_with (first | ((with_reducible refine gate_dst (N := 1) rfl ?_); refine box_event ?hg (N := 1) ?hd (cs := #[.slice A0_0 l0_0.length c0_0, .bool a0_1]) (t := 34) ?hr ?_; (case hd => rfl); (case hg => rfl); (case hr => first | (go_simp; done) | (go_simp; rfl)); intro gb122 hg w4 hbox hb; have n0_ := Aside0.mk (below_step (by repeat (first | (with_reducible first | exact HB.out | apply below_alloc | apply pw_below_drewN | apply below_drew1) | exact HB.out)) hb); have n1_ := Aside0.mk (hbox); have n2_ := Aside0.mk ((by rw [hg]; exact (below_size (by repeat (first | (with_reducible first | exact HB.out | apply below_alloc | apply pw_below_drewN | apply below_drew1) | exact HB.out))) : w.heap.size ≤ gb122)); have n3_ := Aside0.mk ((by rw [hg]; exact (below_size (by repeat (first | (with_reducible first | exact HB.out | apply below_alloc | apply pw_below_drewN | apply below_drew1) | exact HB.out))) : w.heap.size ≤ gb122)); clear HB; have HB := n0_; have BK122 := n1_; have GW122 := n2_; have GE122 := n3_; clear n0_ n1_ n2_ n3_; clear hb hbox hg; have hcz5_0 : w4.cell? ⟨gb122, 0, none⟩ = some (.slice A0_0 l0_0.length c0_0) := (blk_cell BK122.out 0).trans rfl; have hcz5_1 : w4.cell? ⟨gb122, 1, none⟩ = some (.bool a0_1) := (blk_cell BK122.out 1).trans rfl; have hfz5_0 := blk_frozen BK122.out 0; have hfz5_1 := blk_frozen BK122.out 1) | ((with_reducible refine gate_callee (f := 33) rfl ?_); refine goesL_ (some 5) rfl rfl Tryz.func33 (by kernel_rfl) rfl #[.slice A0_0 l0_0.length c0_0] rfl (by (try simp only [List.map_toArray, List.map_cons, List.map_nil]); first | done | rfl | (simp only [List.length_drop, List.length_take]; rfl)) ?_; (with_reducible refine (laws_zzFits2.calls k _ _ l0_0 true _ ?side1 ?side2 A2.out).mono ?_); (case side1 => repeat (first | exact (Kd.C_below HR0_0.out HB.out) | (with_reducible refine Kd.C_alloc ?_ _) | (with_reducible refine Kd.C_drewN ?_ _) | (with_reducible refine Kd.C_drew ?_))); (case side2 => exact HC0_0.out); rintro e w' ⟨rfl, ⟨nd, rfl⟩⟩; refine ⟨_, rfl, ?_⟩))
    go_ret
    exact ⟨by first | rfl | (simp [errW_none, errW_some] <;> rfl) | (simp [*, errW_none, errW_some] <;> rfl), by repeat (first | (with_reducible first | exact HB.out | apply below_alloc | apply pw_below_drewN | apply below_drew1 | refine below_set ?_ GE122.out) | exact HB.out)⟩
  · replace c3 := Bool.eq_false_iff.mpr c3
    subst c3
    have H1 : (some false) = some r := by rw [if_neg (show ¬ (false = true) by decide)] at H; exact H
    clear H
    have H := H1
    clear H1
    obtain rfl := Option.some.inj H
    go_enter Tryz.func19, Tryz.ntmps19
    go_wp2_with (first | ((with_reducible refine gate_dst (N := 1) rfl ?_); refine box_event ?hg (N := 1) ?hd (cs := #[.slice A0_0 l0_0.length c0_0, .bool a0_1]) (t := 34) ?hr ?_; (case hd => rfl); (case hg => rfl); (case hr => first | (go_simp; done) | (go_simp; rfl)); intro gb122 hg w6 hbox hb; have n0_ := Aside0.mk (below_step (by repeat (first | (with_reducible first | exact HB.out | apply below_alloc | apply pw_below_drewN | apply below_drew1) | exact HB.out)) hb); have n1_ := Aside0.mk (hbox); have n2_ := Aside0.mk ((by rw [hg]; exact (below_size (by repeat (first | (with_reducible first | exact HB.out | apply below_alloc | apply pw_below_drewN | apply below_drew1) | exact HB.out))) : w.heap.size ≤ gb122)); have n3_ := Aside0.mk ((by rw [hg]; exact (below_size (by repeat (first | (with_reducible first | exact HB.out | apply below_alloc | apply pw_below_drewN | apply below_drew1) | exact HB.out))) : w.heap.size ≤ gb122)); clear HB; have HB := n0_; have BK122 := n1_; have GW122 := n2_; have GE122 := n3_; clear n0_ n1_ n2_ n3_; clear hb hbox hg; have hcz7_0 : w6.cell? ⟨gb122, 0, none⟩ = some (.slice A0_0 l0_0.length c0_0) := (blk_cell BK122.out 0).trans rfl; have hcz7_1 : w6.cell? ⟨gb122, 1, none⟩ = some (.bool a0_1) := (blk_cell BK122.out 1).trans rfl; have hfz7_0 := blk_frozen BK122.out 0; have hfz7_1 := blk_frozen BK122.out 1) | ((with_reducible refine gate_callee (f := 33) rfl ?_); refine goesL_ (some 5) rfl rfl Tryz.func33 (by kernel_rfl) rfl #[.slice A0_0 l0_0.length c0_0] rfl (by (try simp only [List.map_toArray, List.map_cons, List.map_nil]); first | done | rfl | (simp only [List.length_drop, List.length_take]; rfl)) ?_; (with_reducible refine (laws_zzFits2.calls k _ _ l0_0 false _ ?side1 ?side2 A2.out).mono ?_); (case side1 => repeat (first | exact (Kd.C_below HR0_0.out HB.out) | (with_reducible refine Kd.C_alloc ?_ _) | (with_reducible refine Kd.C_drewN ?_ _) | (with_reducible refine Kd.C_drew ?_))); (case side2 => exact HC0_0.out); rintro e w' ⟨rfl, ⟨nd, rfl⟩⟩; refine ⟨_, rfl, ?_⟩))
    go_ret
    exact ⟨by first | rfl | (simp [errW_none, errW_some] <;> rfl) | (simp [*, errW_none, errW_some] <;> rfl), by repeat (first | (with_reducible first | exact HB.out | apply below_alloc | apply pw_below_drewN | apply below_drew1 | refine below_set ?_ GE122.out) | exact HB.out)⟩
end Go.Proofs.YtkhgeonlohafgaaGreatDoor.Core
namespace Go.Proofs.YtkhgeonlohafgaaGreatDoor.Core
open Go.RowKit Go.Proofs.YtkhgeonlohafgaaGreatDoorW.PrintWords Go.Proofs.YtkhgeonlohafgaaGreatDoorW.PrintLast Go.Proofs.YtkhgeonlohafgaaGreatDoorW.PrintMore
attribute [local go_sem] max2_int min2_int max_two min_two max_three min_three max_four min_four   -- for this text's walks alone
set_option linter.unusedVariables false
set_option linter.unusedSimpArgs false
mutual
def laws_expr.l0 : Nat → List (List (S67)) → Int → Int → List (List (S57)) → Bool → Option ((List (List (S57))) × Bool)
  | 0, _, _, _, _, _ => none
  | k + 1, x13, x14, x15, x127000, x127001 => if x15 < x14 then (if 0 ≤ x15 then (if x15 < (x13.length : Int) then (laws_expr.l1 k (([] : List (S57))) x13 x14 x15 (rd_L6 x13 x15) ((rd_L6 x13 x15).length : Int) 0 x127000 x127001) else (none)) else (none)) else (some (x127000, x127001))
def laws_expr.l1 : Nat → List (S57) → List (List (S67)) → Int → Int → List (S67) → Int → Int → List (List (S57)) → Bool → Option ((List (List (S57))) × Bool)
  | 0, _, _, _, _, _, _, _, _, _ => none
  | k + 1, x6, x13, x14, x15, x20, x21, x22, x127000, x127001 => if x22 < x21 then (if 0 ≤ x22 then (if x22 < (x20.length : Int) then (if x6.length < 4398046511104 then (laws_expr.l1 k (x6 ++ [(⟨(rd_T67 x20 x22).f0, (rd_T67 x20 x22).f1, (rd_T67 x20 x22).f2, (rd_T67 x20 x22).f3⟩ : S57)]) x13 x14 x15 x20 x21 (wrap64 (x22 + 1)) x127000 x127001) else (none)) else (none)) else (none)) else (if x127000.length < 5864062014805 then (laws_expr.l0 k x13 x14 (wrap64 (x15 + 1)) (x127000 ++ [x6]) x127001) else (none))
end
def laws_expr.f (k : Nat) (l0_0 : List (List (S67))) (a0_1 : Bool) : Option ((List (List (S57))) × Bool) := laws_expr.l0 k l0_0 (l0_0.length : Int) 0 ([] : List (List (S57))) a0_1
set_option maxHeartbeats 8000000 in
set_option maxRecDepth 100000 in
theorem laws_expr.calls (k : Nat) (A0_0 : Option Addr) (c0_0 : Nat) (l0_0 : List (List (S67))) (a0_1 : Bool) (r1 : List (List (S57))) (r2 : Bool) (w : World) (hr0_0 : Kd.C (Kd.slice 67 k67) w A0_0 l0_0.length l0_0) (hc0_0 : l0_0.length ≤ c0_0) (h : laws_expr.f k l0_0 a0_1 = some (r1, r2)) :
    Calls Tryz.prog 20 #[.agg #[.slice A0_0 l0_0.length c0_0, .bool a0_1]] w fun e w' => ∃ v0_ : Value, e = .returned (.agg #[v0_, .bool r2]) ∧ Kd.S (Kd.slice 57 k57) 55 w' w.heap.size (fun _ => True) v0_ r1 ∧ Below w.heap.size w w' := by
  have hu34 := Tryz.underlying34
  have hu38 := Tryz.underlying38
  have hu67 := Tryz.underlying67
  have hu57 := Tryz.underlying57
  have HR0_0 := Aside0.mk hr0_0
  have HC0_0 := Aside0.mk hc0_0
  clear hr0_0 hc0_0
  have HB := Aside0.mk (Below.refl w.heap.size w)
  have H : (laws_expr.l0 k l0_0 (l0_0.length : Int) 0 ([] : List (List (S57))) a0_1) = some (r1, r2) := h
  clear h
  have H' := Aside0.mk H
  clear H
  go_enter Tryz.func20, Tryz.ntmps20
  go_wp2_with (first | ((with_reducible refine gate_dst (N := 1) rfl ?_); refine box_event ?hg (N := 1) ?hd (cs := #[.slice A0_0 l0_0.length c0_0, .bool a0_1]) (t := 34) ?hr ?_; (case hd => rfl); (case hg => rfl); (case hr => first | (go_simp; done) | (go_simp; rfl)); intro gb124 hg w2 hbox hb; have n0_ := Aside0.mk (below_step (by repeat (first | (with_reducible first | exact HB.out | apply below_alloc | apply pw_below_drewN | apply below_drew1) | exact HB.out)) hb); have n1_ := Aside0.mk (hbox); have n2_ := Aside0.mk ((by rw [hg]; exact (below_size (by repeat (first | (with_reducible first | exact HB.out | apply below_alloc | apply pw_below_drewN | apply below_drew1) | exact HB.out))) : w.heap.size ≤ gb124)); have n3_ := Aside0.mk ((by rw [hg]; exact (below_size (by repeat (first | (with_reducible first | exact HB.out | apply below_alloc | apply pw_below_drewN | apply below_drew1) | exact HB.out))) : w.heap.size ≤ gb124)); clear HB; have HB := n0_; have BK124 := n1_; have GW124 := n2_; have GE124 := n3_; clear n0_ n1_ n2_ n3_; clear hb hbox hg) | ((with_reducible refine gate_dst (N := 2) rfl ?_); refine box_event ?hg (N := 2) ?hd (cs := #[.slice none 0 0, .bool false]) (t := 38) ?hr ?_; (case hd => rfl); (case hg => rfl); (case hr => first | (go_simp; done) | (go_simp; rfl)); intro gb125 hg w3 hbox hb; have n0_ := Aside0.mk (blk_below (g := gb124) (o := .cells #[.slice A0_0 l0_0.length c0_0, .bool a0_1] 34 (0, 0)) (by (with_reducible repeat (first | refine blk_drewN ?_ _ | refine blk_drew ?_ | refine blk_alloc ?_ _)); exact BK124.out) hb); have n1_ := Aside0.mk (below_step (by repeat (first | (with_reducible first | exact HB.out | apply below_alloc | apply pw_below_drewN | apply below_drew1 | refine below_set ?_ GE124.out) | exact HB.out)) hb); have n2_ := Aside0.mk (hbox); have n3_ := Aside0.mk ((by rw [hg]; exact (below_size (by repeat (first | (with_reducible first | exact HB.out | apply below_alloc | apply pw_below_drewN | apply below_drew1 | refine below_set ?_ GE124.out) | exact HB.out))) : w.heap.size ≤ gb125)); have n4_ := Aside0.mk ((by rw [hg]; exact (below_size (by repeat (first | (with_reducible first | exact HB.out | apply below_alloc | apply pw_below_drewN | apply below_drew1 | refine below_set ?_ GE124.out) | exact HB.out))) : w.heap.size ≤ gb125)); have n5_ := Aside0.mk ((by rw [hg]; exact Nat.ne_of_lt (blk_lt (g := gb124) (o := .cells #[.slice A0_0 l0_0.length c0_0, .bool a0_1] 34 (0, 0)) (by (with_reducible repeat (first | refine blk_drewN ?_ _ | refine blk_drew ?_ | refine blk_alloc ?_ _)); exact BK124.out)) : gb124 ≠ gb125)); have n6_ := Aside0.mk ((by rw [hg]; exact Nat.ne_of_gt (blk_lt (g := gb124) (o := .cells #[.slice A0_0 l0_0.length c0_0, .bool a0_1] 34 (0, 0)) (by (with_reducible repeat (first | refine blk_drewN ?_ _ | refine blk_drew ?_ | refine blk_alloc ?_ _)); exact BK124.out)) : gb125 ≠ gb124)); clear BK124; clear HB; have BK124 := n0_; have HB := n1_; have BK125 := n2_; have GW125 := n3_; have GE125 := n4_; have NB124_125 := n5_; have NB125_124 := n6_; clear n0_ n1_ n2_ n3_ n4_ n5_ n6_; clear hb hbox hg; have hnb4 := NB124_125.out; have hnc4 := NB125_124.out; have hcz5_0 : w3.cell? ⟨gb124, 0, none⟩ = some (.slice A0_0 l0_0.length c0_0) := (blk_cell BK124.out 0).trans rfl; have hcz5_1 : w3.cell? ⟨gb124, 1, none⟩ = some (.bool a0_1) := (blk_cell BK124.out 1).trans rfl; have hfz5_0 := blk_frozen BK124.out 0; have hfz5_1 := blk_frozen BK124.out 1) | ((with_reducible refine gate_dst (N := 3) rfl ?_); refine box_event ?hg (N := 3) ?hd (cs := #[.slice none 0 0, .bool false]) (t := 38) ?hr ?_; (case hd => rfl); (case hg => rfl); (case hr => first | (go_simp; done) | (go_simp; rfl)); intro gb126 hg w6 hbox hb; have n0_ := Aside0.mk (blk_below (g := gb124) (o := .cells #[.slice A0_0 l0_0.length c0_0, .bool a0_1] 34 (0, 0)) (by (with_reducible repeat (first | refine blk_drewN ?_ _ | refine blk_drew ?_ | refine blk_alloc ?_ _)); exact BK124.out) hb); have n1_ := Aside0.mk (blk_below (g := gb125) (o := .cells #[.slice none 0 0, .bool false] 38 (0, 0)) (by (with_reducible repeat (first | refine blk_drewN ?_ _ | refine blk_drew ?_ | refine blk_alloc ?_ _)); exact BK125.out) hb); have n2_ := Aside0.mk (below_step (by repeat (first | (with_reducible first | exact HB.out | apply below_alloc | apply pw_below_drewN | apply below_drew1 | refine below_set ?_ GE124.out | refine below_set ?_ GE125.out) | exact HB.out)) hb); have n3_ := Aside0.mk (hbox); have n4_ := Aside0.mk ((by rw [hg]; exact (below_size (by repeat (first | (with_reducible first | exact HB.out | apply below_alloc | apply pw_below_drewN | apply below_drew1 | refine below_set ?_ GE124.out | refine below_set ?_ GE125.out) | exact HB.out))) : w.heap.size ≤ gb126)); have n5_ := Aside0.mk ((by rw [hg]; exact (below_size (by repeat (first | (with_reducible first | exact HB.out | apply below_alloc | apply pw_below_drewN | apply below_drew1 | refine below_set ?_ GE124.out | refine below_set ?_ GE125.out) | exact HB.out))) : w.heap.size ≤ gb126)); have n6_ := Aside0.mk ((by rw [hg]; exact Nat.ne_of_lt (blk_lt (g := gb124) (o := .cells #[.slice A0_0 l0_0.length c0_0, .bool a0_1] 34 (0, 0)) (by (with_reducible repeat (first | refine blk_drewN ?_ _ | refine blk_drew ?_ | refine blk_alloc ?_ _)); exact BK124.out)) : gb124 ≠ gb126)); have n7_ := Aside0.mk ((by rw [hg]; exact Nat.ne_of_gt (blk_lt (g := gb124) (o := .cells #[.slice A0_0 l0_0.length c0_0, .bool a0_1] 34 (0, 0)) (by (with_reducible repeat (first | refine blk_drewN ?_ _ | refine blk_drew ?_ | refine blk_alloc ?_ _)); exact BK124.out)) : gb126 ≠ gb124)); have n8_ := Aside0.mk ((by rw [hg]; exact Nat.ne_of_lt (blk_lt (g := gb125) (o := .cells #[.slice none 0 0, .bool false] 38 (0, 0)) (by (with_reducible repeat (first | refine blk_drewN ?_ _ | refine blk_drew ?_ | refine blk_alloc ?_ _)); exact BK125.out)) : gb125 ≠ gb126)); have n9_ := Aside0.mk ((by rw [hg]; exact Nat.ne_of_gt (blk_lt (g := gb125) (o := .cells #[.slice none 0 0, .bool false] 38 (0, 0)) (by (with_reducible repeat (first | refine blk_drewN ?_ _ | refine blk_drew ?_ | refine blk_alloc ?_ _)); exact BK125.out)) : gb126 ≠ gb125)); clear BK124; clear BK125; clear HB; have BK124 := n0_; have BK125 := n1_; have HB := n2_; have BK126 := n3_; have GW126 := n4_; have GE126 := n5_; have NB124_126 := n6_; have NB126_124 := n7_; have NB125_126 := n8_; have NB126_125 := n9_; clear n0_ n1_ n2_ n3_ n4_ n5_ n6_ n7_ n8_ n9_; clear hb hbox hg; have hnb7 := NB126_124.out; have hnc7 := NB124_126.out; have hnb8 := NB126_125.out; have hnc8 := NB125_126.out; have hcz9_0 : w6.cell? ⟨gb126, 0, none⟩ = some (.slice none 0 0) := (blk_cell BK126.out 0).trans rfl; have hcz9_1 : w6.cell? ⟨gb126, 1, none⟩ = some (.bool false) := (blk_cell BK126.out 1).trans rfl; have hfz9_0 := blk_frozen BK126.out 0; have hfz9_1 := blk_frozen BK126.out 1; have hcz10_0 : w6.cell? ⟨gb124, 0, none⟩ = some (.slice A0_0 l0_0.length c0_0) := (blk_cell BK124.out 0).trans rfl; have hcz10_1 : w6.cell? ⟨gb124, 1, none⟩ = some (.bool a0_1) := (blk_cell BK124.out 1).trans rfl; have hfz10_0 := blk_frozen BK124.out 0; have hfz10_1 := blk_frozen BK124.out 1))
  go_loopg [15] k (fun kq v15 w' => ∃ (x15_1 : Int) (x127000_1 : List (List (S57))) (u127000 : Value), v15 = .int .i64 x15_1 ∧ Aside0 (laws_expr.l0 kq l0_0 (l0_0.length : Int) x15_1 x127000_1 a0_1 = some (r1, r2)) ∧ Aside0 (kq ≤ k) ∧ Aside0 (Kd.S (Kd.slice 57 k57) 55 w' w.heap.size (fun _ => True) u127000 x127000_1) ∧ Aside0 (w'.heap[gb124]? = some (.cells #[(.slice A0_0 l0_0.length c0_0), .bool a0_1] 34 (0, 0))) ∧ Aside0 (w'.heap[gb125]? = some (.cells #[(.slice none 0 0), .bool false] 38 (0, 0))) ∧ Aside0 (w'.heap[gb126]? = some (.cells #[u127000, .bool a0_1] 38 (0, 0))) ∧ Aside0 (Below w.heap.size w w'))
  case atStart => exact ⟨(0), (([] : List (List (S57)))), (.slice none 0 0), (by first | rfl | (simp; done) | (simp [*]; done)), H', ⟨Nat.le_refl _⟩, ⟨by first | exact Kd.S_nil _ _ _ _ _ | exact Kd.N_nil _ _ _ _ _ | exact Kd.V_nil _ _ _ _ _ | exact Kd.Q_nil _ _ _ _ _ | exact Kd.R_nil _ _ _ _ _⟩, ⟨by (with_reducible repeat (first | refine blk_drewN ?_ _ | refine blk_drew ?_ | refine blk_alloc ?_ _)); refine blk_far ?_ NB124_126.out _; (with_reducible repeat (first | refine blk_drewN ?_ _ | refine blk_drew ?_ | refine blk_alloc ?_ _)); refine blk_far ?_ NB124_126.out _; (with_reducible repeat (first | refine blk_drewN ?_ _ | refine blk_drew ?_ | refine blk_alloc ?_ _)); exact BK124.out⟩, ⟨by (with_reducible repeat (first | refine blk_drewN ?_ _ | refine blk_drew ?_ | refine blk_alloc ?_ _)); refine blk_far ?_ NB125_126.out _; (with_reducible repeat (first | refine blk_drewN ?_ _ | refine blk_drew ?_ | refine blk_alloc ?_ _)); refine blk_far ?_ NB125_126.out _; (with_reducible repeat (first | refine blk_drewN ?_ _ | refine blk_drew ?_ | refine blk_alloc ?_ _)); exact BK125.out⟩, ⟨by (with_reducible repeat (first | refine blk_drewN ?_ _ | refine blk_drew ?_ | refine blk_alloc ?_ _)); refine blk_put (cs := #[.slice none 0 0, .bool false]) ?_ 1 _ rfl; (with_reducible repeat (first | refine blk_drewN ?_ _ | refine blk_drew ?_ | refine blk_alloc ?_ _)); refine blk_put (cs := #[.slice none 0 0, .bool false]) ?_ 0 _ rfl; (with_reducible repeat (first | refine blk_drewN ?_ _ | refine blk_drew ?_ | refine blk_alloc ?_ _)); exact BK126.out⟩, ⟨by repeat (first | (with_reducible first | exact HB.out | apply below_alloc | apply pw_below_drewN | apply below_drew1 | refine below_set ?_ GE124.out | refine below_set ?_ GE125.out | refine below_set ?_ GE126.out) | exact HB.out)⟩⟩
  case round =>
    clear H'
    try clear c2
    try clear p2
    try clear c4
    try clear c7
    try clear c8
    try clear hcz10_0
    try clear hcz10_1
    try clear hcz5_0
    try clear hcz5_1
    try clear hcz9_0
    try clear hcz9_1
    try clear hfz10_0
    try clear hfz10_1
    try clear hfz5_0
    try clear hfz5_1
    try clear hfz9_0
    try clear hfz9_1
    obtain ⟨x15_1, x127000_1, u127000, rfl, HA, HK1, HO_127000, BK124, BK125, BK126, HB⟩ := hrel
    cases gk with
    | zero => exact absurd HA.out (by simp [laws_expr.l0])
    | succ k1 =>
      have H := HA.out
      clear HA
      simp only [laws_expr.l0] at H
      by_cases c11 : x15_1 < (l0_0.length : Int)
      · rw [if_pos c11] at H
        have c11b0 : decide (x15_1 < (l0_0.length : Int)) = true := decide_eq_true c11
        clear c11
        by_cases c12 : 0 ≤ x15_1
        · rw [if_pos c12] at H
          have c12b0 : decide (0 ≤ x15_1) = true := decide_eq_true c12
          clear c12
          by_cases c13 : x15_1 < (l0_0.length : Int)
          · rw [if_pos c13] at H
            have c13b0 : decide (x15_1 < (l0_0.length : Int)) = true := decide_eq_true c13
            clear c13
            obtain ⟨y128, hy128⟩ : ∃ y_ : List (S57), y_ = (([] : List (S57))) := ⟨_, rfl⟩
            replace H : (laws_expr.l1 k1 y128 l0_0 (l0_0.length : Int) x15_1 (rd_L6 l0_0 x15_1) ((rd_L6 l0_0 x15_1).length : Int) 0 x127000_1 a0_1) = some (r1, r2) := by first | (rw [hy128]; with_reducible exact H) | (have H2_ := (Option.bind_some _ _).symm.trans H; rw [hy128]; with_reducible exact H2_) | (have H2_ := (Option.bind_some _ _).symm.trans H; with_reducible exact H2_) | with_reducible exact H | (rw [hy128]; exact H) | exact H
            have Ny128 := Aside0.mk hy128
            clear hy128
            have H' := Aside0.mk H
            clear H
            have p127 : 0 ≤ (x15_1 : Int) := of_decide_eq_true (by first | (with_reducible assumption) | assumption)
            have q127 : x15_1 < (l0_0.length : Int) := of_decide_eq_true (by first | (with_reducible assumption) | assumption)
            obtain ⟨ad127, A127_0, c127_0, e127, hx127_0, hl127_0, hi127_0⟩ := at_L6 HR0_0.out x15_1 p127 q127
            cases e127
            replace hx127_0 := (HB.out.cell (World.block_lt_of_cell? w _ hx127_0)).trans hx127_0
            have HR127_0 := Aside0.mk hi127_0
            have HC127_0 := Aside0.mk hl127_0
            clear hi127_0 hl127_0
            replace p127 := eq_true p127
            replace q127 := eq_true q127
            go_wp2_with (first | ((with_reducible refine gate_dst (N := 19) rfl ?_); refine Kd.R_lit k57 _ 57 ?hg (N := 19) ?hd (xs := ([] : List (S57))) (inner := []) (ok := fun _ => True) (okp := fun _ => True) ?hr ?hp (fun _ hk => hk) trivial (Below.refl _ _) (Nat.le_refl _) (by simp) ?_; (case hd => rfl); (case hg => rfl); (case hr => first | (go_simp; done) | (go_simp; rfl)); (case hp => exact (Reps.none _ _)); intro v129 w14 ho15 hb hg_ hnew_; clear hg_ hnew_; (first | rw [← Ny128.out] at ho15 | (simp only [Int.reduceToNat] at ho15; rw [← Ny128.out] at ho15)); have n0_ := Aside0.mk (Kd.S_elder' (by (with_reducible repeat (first | apply Kd.S_alloc | apply Kd.S_drewN | apply Kd.S_drew)); exact HO_127000.out) (Kd.R_base ho15) hb); have n1_ := Aside0.mk (Kd.R_lower ho15 (below_size (by repeat (first | (with_reducible first | exact HB.out | apply below_alloc | apply pw_below_drewN | apply below_drew1 | refine below_set ?_ GE124.out | refine below_set ?_ GE125.out | refine below_set ?_ GE126.out) | exact HB.out)))); have n2_ := Aside0.mk (blk_below (g := gb124) (o := .cells #[.slice (some ad127) l0_0.length c0_0, .bool a0_1] 34 (0, 0)) (by (with_reducible repeat (first | refine blk_drewN ?_ _ | refine blk_drew ?_ | refine blk_alloc ?_ _)); exact BK124.out) hb); have n3_ := Aside0.mk (blk_below (g := gb125) (o := .cells #[.slice none 0 0, .bool false] 38 (0, 0)) (by (with_reducible repeat (first | refine blk_drewN ?_ _ | refine blk_drew ?_ | refine blk_alloc ?_ _)); exact BK125.out) hb); have n4_ := Aside0.mk (blk_below (g := gb126) (o := .cells #[u127000, .bool a0_1] 38 (0, 0)) (by (with_reducible repeat (first | refine blk_drewN ?_ _ | refine blk_drew ?_ | refine blk_alloc ?_ _)); exact BK126.out) hb); have n5_ := Aside0.mk (below_step (by repeat (first | (with_reducible first | exact HB.out | apply below_alloc | apply pw_below_drewN | apply below_drew1 | refine below_set ?_ GE124.out | refine below_set ?_ GE125.out | refine below_set ?_ GE126.out) | exact HB.out)) hb); clear HO_127000; clear BK124; clear BK125; clear BK126; clear HB; have HO_127000 := n0_; have HO130 := n1_; have BK124 := n2_; have BK125 := n3_; have BK126 := n4_; have HB := n5_; clear n0_ n1_ n2_ n3_ n4_ n5_; clear hb ho15))
            go_loopg [6, 22] k1 (fun kq v6 v22 w' => ∃ (x6_2 : List (S57)) (x22_2 : Int), v22 = .int .i64 x22_2 ∧ Aside0 (laws_expr.l1 kq x6_2 l0_0 (l0_0.length : Int) x15_1 (rd_L6 l0_0 x15_1) ((rd_L6 l0_0 x15_1).length : Int) x22_2 x127000_1 a0_1 = some (r1, r2)) ∧ Aside0 (kq ≤ k1) ∧ Aside0 (Kd.R k57 57 w' w.heap.size (fun _ => True) v6 x6_2) ∧ Aside0 (Kd.S (Kd.slice 57 k57) 55 w' w.heap.size (fun k_ => some k_ ≠ (v6 : Value).ownBlock) u127000 x127000_1) ∧ Aside0 (w'.heap[gb124]? = some (.cells #[(.slice (some ad127) l0_0.length c0_0), .bool a0_1] 34 (0, 0))) ∧ Aside0 (w'.heap[gb125]? = some (.cells #[(.slice none 0 0), .bool false] 38 (0, 0))) ∧ Aside0 (w'.heap[gb126]? = some (.cells #[u127000, .bool a0_1] 38 (0, 0))) ∧ Aside0 (Below w.heap.size w w'))
            case atStart => exact ⟨(y128), (0), (by first | rfl | (simp; done) | (simp [*]; done)), H', ⟨Nat.le_refl _⟩, ⟨by (with_reducible repeat (first | apply Kd.R_alloc | apply Kd.R_drewN | apply Kd.R_drew)); exact HO130.out⟩, ⟨by (with_reducible repeat (first | apply Kd.S_alloc | apply Kd.S_drewN | apply Kd.S_drew)); exact Kd.S_mono HO_127000.out (fun _ hk => hk.2)⟩, ⟨by (with_reducible repeat (first | refine blk_drewN ?_ _ | refine blk_drew ?_ | refine blk_alloc ?_ _)); exact BK124.out⟩, ⟨by (with_reducible repeat (first | refine blk_drewN ?_ _ | refine blk_drew ?_ | refine blk_alloc ?_ _)); exact BK125.out⟩, ⟨by (with_reducible repeat (first | refine blk_drewN ?_ _ | refine blk_drew ?_ | refine blk_alloc ?_ _)); exact BK126.out⟩, ⟨by repeat (first | (with_reducible first | exact HB.out | apply below_alloc | apply pw_below_drewN | apply below_drew1 | refine below_set ?_ GE124.out | refine below_set ?_ GE125.out | refine below_set ?_ GE126.out) | exact HB.out)⟩⟩
            case round =>
              clear H'
              try clear c1
              try clear p1
              try clear q1
              try clear hx1
              try clear c2
              try clear p2
              try clear c4
              try clear c7
              try clear c8
              try clear c11
              try clear c11b0
              try clear c12
              try clear c12b0
              try clear p12
              try clear q12
              try clear hx12
              try clear c13
              try clear c13b0
              try clear hcz10_0
              try clear hcz10_1
              try clear hcz5_0
              try clear hcz5_1
              try clear hcz9_0
              try clear hcz9_1
              try clear hfz10_0
              try clear hfz10_1
              try clear hfz5_0
              try clear hfz5_1
              try clear hfz9_0
              try clear hfz9_1
              try clear hx127_0
              try clear p127
              try clear p2
              try clear q127
              obtain ⟨x6_2, x22_2, rfl, HA, HK2, HO_6, HO_127000, BK124, BK125, BK126, HB⟩ := hrel
              cases gk with
              | zero => exact absurd HA.out (by simp [laws_expr.l1])
              | succ k2 =>
                have H := HA.out
                clear HA
                simp only [laws_expr.l1] at H
                by_cases c16 : x22_2 < ((rd_L6 l0_0 x15_1).length : Int)
                · rw [if_pos c16] at H
                  have c16b0 : decide (x22_2 < ((rd_L6 l0_0 x15_1).length : Int)) = true := decide_eq_true c16
                  clear c16
                  by_cases c17 : 0 ≤ x22_2
                  · rw [if_pos c17] at H
                    have c17b0 : decide (0 ≤ x22_2) = true := decide_eq_true c17
                    clear c17
                    by_cases c18 : x22_2 < ((rd_L6 l0_0 x15_1).length : Int)
                    · rw [if_pos c18] at H
                      have c18b0 : decide (x22_2 < ((rd_L6 l0_0 x15_1).length : Int)) = true := decide_eq_true c18
                      clear c18
                      by_cases c19 : x6_2.length < 4398046511104
                      · rw [if_pos c19] at H
                        have LMc19 := Aside0.mk c19
                        clear c19
                        obtain ⟨y133, hy133⟩ : ∃ y_ : List (S57), y_ = (x6_2 ++ [(⟨(rd_T67 (rd_L6 l0_0 x15_1) x22_2).f0, (rd_T67 (rd_L6 l0_0 x15_1) x22_2).f1, (rd_T67 (rd_L6 l0_0 x15_1) x22_2).f2, (rd_T67 (rd_L6 l0_0 x15_1) x22_2).f3⟩ : S57)]) := ⟨_, rfl⟩
                        replace H : (laws_expr.l1 k2 y133 l0_0 (l0_0.length : Int) x15_1 (rd_L6 l0_0 x15_1) ((rd_L6 l0_0 x15_1).length : Int) (wrap64 (x22_2 + 1)) x127000_1 a0_1) = some (r1, r2) := by first | (rw [hy133]; with_reducible exact H) | (have H2_ := (Option.bind_some _ _).symm.trans H; rw [hy133]; with_reducible exact H2_) | (have H2_ := (Option.bind_some _ _).symm.trans H; with_reducible exact H2_) | with_reducible exact H | (rw [hy133]; exact H) | exact H
                        have Ny133 := Aside0.mk hy133
                        clear hy133
                        have H' := Aside0.mk H
                        clear H
                        have p131 : 0 ≤ (x22_2 : Int) := of_decide_eq_true (by first | (with_reducible assumption) | assumption)
                        have q131 : x22_2 < ((rd_L6 l0_0 x15_1).length : Int) := of_decide_eq_true (by first | (with_reducible assumption) | assumption)
                        obtain ⟨ad131, e131, hx131_0, hx131_1, hx131_2, hx131_3⟩ := at_T67 HR127_0.out x22_2 p131 q131
                        cases e131
                        replace hx131_0 := (HB.out.cell (World.block_lt_of_cell? w _ hx131_0)).trans hx131_0
                        replace hx131_1 := (HB.out.cell (World.block_lt_of_cell? w _ hx131_1)).trans hx131_1
                        replace hx131_2 := (HB.out.cell (World.block_lt_of_cell? w _ hx131_2)).trans hx131_2
                        replace hx131_3 := (HB.out.cell (World.block_lt_of_cell? w _ hx131_3)).trans hx131_3
                        replace p131 := eq_true p131
                        replace q131 := eq_true q131
                        go_wp2_with (first | ((with_reducible refine gate_dst (N := 8) rfl ?_); refine box_event ?hg (N := 8) ?hd (cs := #[.bool false, .int .i64 0, .int .i64 0, .int .i64 0]) (t := 67) ?hr ?_; (case hd => rfl); (case hg => rfl); (case hr => first | (go_simp; done) | (go_simp; rfl)); intro gb132 hg w20 hbox hb; have n0_ := Aside0.mk (Kd.R_below (by (with_reducible repeat (first | apply Kd.R_alloc | apply Kd.R_drewN | apply Kd.R_drew)); exact HO_6.out) hb); have n1_ := Aside0.mk (Kd.S_below (by (with_reducible repeat (first | apply Kd.S_alloc | apply Kd.S_drewN | apply Kd.S_drew)); exact HO_127000.out) hb); have n2_ := Aside0.mk (blk_below (g := gb124) (o := .cells #[.slice (some ad127) l0_0.length c0_0, .bool a0_1] 34 (0, 0)) (by (with_reducible repeat (first | refine blk_drewN ?_ _ | refine blk_drew ?_ | refine blk_alloc ?_ _)); exact BK124.out) hb); have n3_ := Aside0.mk (blk_below (g := gb125) (o := .cells #[.slice none 0 0, .bool false] 38 (0, 0)) (by (with_reducible repeat (first | refine blk_drewN ?_ _ | refine blk_drew ?_ | refine blk_alloc ?_ _)); exact BK125.out) hb); have n4_ := Aside0.mk (blk_below (g := gb126) (o := .cells #[u127000, .bool a0_1] 38 (0, 0)) (by (with_reducible repeat (first | refine blk_drewN ?_ _ | refine blk_drew ?_ | refine blk_alloc ?_ _)); exact BK126.out) hb); have n5_ := Aside0.mk (below_step (by repeat (first | (with_reducible first | exact HB.out | apply below_alloc | apply pw_below_drewN | apply below_drew1 | refine below_set ?_ GE124.out | refine below_set ?_ GE125.out | refine below_set ?_ GE126.out) | exact HB.out)) hb); have n6_ := Aside0.mk (hbox); have n7_ := Aside0.mk ((by rw [hg]; exact (below_size (by repeat (first | (with_reducible first | exact HB.out | apply below_alloc | apply pw_below_drewN | apply below_drew1 | refine below_set ?_ GE124.out | refine below_set ?_ GE125.out | refine below_set ?_ GE126.out) | exact HB.out))) : w.heap.size ≤ gb132)); have n8_ := Aside0.mk ((by rw [hg]; exact (below_size (by repeat (first | (with_reducible first | exact HB.out | apply below_alloc | apply pw_below_drewN | apply below_drew1 | refine below_set ?_ GE124.out | refine below_set ?_ GE125.out | refine below_set ?_ GE126.out) | exact HB.out))) : w.heap.size ≤ gb132)); have n9_ := Aside0.mk ((by rw [hg]; exact Nat.ne_of_lt (blk_lt (g := gb124) (o := .cells #[.slice (some ad127) l0_0.length c0_0, .bool a0_1] 34 (0, 0)) (by (with_reducible repeat (first | refine blk_drewN ?_ _ | refine blk_drew ?_ | refine blk_alloc ?_ _)); exact BK124.out)) : gb124 ≠ gb132)); have n10_ := Aside0.mk ((by rw [hg]; exact Nat.ne_of_gt (blk_lt (g := gb124) (o := .cells #[.slice (some ad127) l0_0.length c0_0, .bool a0_1] 34 (0, 0)) (by (with_reducible repeat (first | refine blk_drewN ?_ _ | refine blk_drew ?_ | refine blk_alloc ?_ _)); exact BK124.out)) : gb132 ≠ gb124)); have n11_ := Aside0.mk ((by rw [hg]; exact Nat.ne_of_lt (blk_lt (g := gb125) (o := .cells #[.slice none 0 0, .bool false] 38 (0, 0)) (by (with_reducible repeat (first | refine blk_drewN ?_ _ | refine blk_drew ?_ | refine blk_alloc ?_ _)); exact BK125.out)) : gb125 ≠ gb132)); have n12_ := Aside0.mk ((by rw [hg]; exact Nat.ne_of_gt (blk_lt (g := gb125) (o := .cells #[.slice none 0 0, .bool false] 38 (0, 0)) (by (with_reducible repeat (first | refine blk_drewN ?_ _ | refine blk_drew ?_ | refine blk_alloc ?_ _)); exact BK125.out)) : gb132 ≠ gb125)); have n13_ := Aside0.mk ((by rw [hg]; exact Nat.ne_of_lt (blk_lt (g := gb126) (o := .cells #[u127000, .bool a0_1] 38 (0, 0)) (by (with_reducible repeat (first | refine blk_drewN ?_ _ | refine blk_drew ?_ | refine blk_alloc ?_ _)); exact BK126.out)) : gb126 ≠ gb132)); have n14_ := Aside0.mk ((by rw [hg]; exact Nat.ne_of_gt (blk_lt (g := gb126) (o := .cells #[u127000, .bool a0_1] 38 (0, 0)) (by (with_reducible repeat (first | refine blk_drewN ?_ _ | refine blk_drew ?_ | refine blk_alloc ?_ _)); exact BK126.out)) : gb132 ≠ gb126)); clear HO_6; clear HO_127000; clear BK124; clear BK125; clear BK126; clear HB; have HO_6 := n0_; have HO_127000 := n1_; have BK124 := n2_; have BK125 := n3_; have BK126 := n4_; have HB := n5_; have BK132 := n6_; have GW132 := n7_; have GE132 := n8_; have NB124_132 := n9_; have NB132_124 := n10_; have NB125_132 := n11_; have NB132_125 := n12_; have NB126_132 := n13_; have NB132_126 := n14_; clear n0_ n1_ n2_ n3_ n4_ n5_ n6_ n7_ n8_ n9_ n10_ n11_ n12_ n13_ n14_; clear hb hbox hg; have hnb21 := NB132_124.out; have hnc21 := NB124_132.out; have hnb22 := NB132_125.out; have hnc22 := NB125_132.out; have hnb23 := NB132_126.out; have hnc23 := NB126_132.out; have hcz24_0 : w20.cell? ⟨gb132, 0, none⟩ = some (.bool false) := (blk_cell BK132.out 0).trans rfl; have hcz24_1 : w20.cell? ⟨gb132, 1, none⟩ = some (.int .i64 0) := (blk_cell BK132.out 1).trans rfl; have hcz24_2 : w20.cell? ⟨gb132, 2, none⟩ = some (.int .i64 0) := (blk_cell BK132.out 2).trans rfl; have hcz24_3 : w20.cell? ⟨gb132, 3, none⟩ = some (.int .i64 0) := (blk_cell BK132.out 3).trans rfl; have hfz24_0 := blk_frozen BK132.out 0; have hfz24_1 := blk_frozen BK132.out 1; have hfz24_2 := blk_frozen BK132.out 2; have hfz24_3 := blk_frozen BK132.out 3) | ((with_reducible refine gate_builtin (b := .append) (xs := #[.tmp 26, .tmp 36]) rfl ?_); at_builtin; refine Kd.R_append k57 (w0 := w) w.heap.size rfl (.tmp 26) (.tmp 36) 55 57 (.agg #[(.bool false), (.int .i64 0), (.int .i64 0), (.int .i64 0)]) 32 rfl Tryz.underlying55 info57 rfl (by decide) (by omega) u6 x6_2 (⟨(rd_T67 (rd_L6 l0_0 x15_1) x22_2).f0, (rd_T67 (rd_L6 l0_0 x15_1) x22_2).f1, (rd_T67 (rd_L6 l0_0 x15_1) x22_2).f2, (rd_T67 (rd_L6 l0_0 x15_1) x22_2).f3⟩ : S57) [.bool ((rd_T67 (rd_L6 l0_0 x15_1) x22_2).f0), .int .i64 ((rd_T67 (rd_L6 l0_0 x15_1) x22_2).f1), .int .i64 ((rd_T67 (rd_L6 l0_0 x15_1) x22_2).f2), .int .i64 ((rd_T67 (rd_L6 l0_0 x15_1) x22_2).f3)] (fun _ => True) (fun _ => False) rfl (by first | (go_simp; done) | (go_simp; rfl)) ?aP (fun _ hk => hk.elim) ?aF ?aO ?aB ?aS ?aL ?_; (case aP => exact k57_mkM _ _ _ (⟨(rd_T67 (rd_L6 l0_0 x15_1) x22_2).f0, (rd_T67 (rd_L6 l0_0 x15_1) x22_2).f1, (rd_T67 (rd_L6 l0_0 x15_1) x22_2).f2, (rd_T67 (rd_L6 l0_0 x15_1) x22_2).f3⟩ : S57)); (case aB => exact (by repeat (first | (with_reducible first | exact HB.out | apply below_alloc | apply pw_below_drewN | apply below_drew1 | refine below_set ?_ GE124.out | refine below_set ?_ GE125.out | refine below_set ?_ GE126.out | refine below_set ?_ GE132.out) | exact HB.out))); (case aF => exact (fun _ _ => trivial)); (case aO => exact (by (with_reducible repeat (first | apply Kd.R_alloc | apply Kd.R_drewN | apply Kd.R_drew)); exact Kd.R_mono (Kd.R_far (p := ⟨gb132, 3, none⟩) (Kd.R_far (p := ⟨gb132, 2, none⟩) (Kd.R_far (p := ⟨gb132, 1, none⟩) (Kd.R_far (p := ⟨gb132, 0, none⟩) (Kd.R_types HO_6.out BK132.out (by decide)) (fun _ hk => hk.2) (.bool ((rd_T67 (rd_L6 l0_0 x15_1) x22_2).f0))) (fun _ hk => hk.2) (.int .i64 ((rd_T67 (rd_L6 l0_0 x15_1) x22_2).f1))) (fun _ hk => hk.2) (.int .i64 ((rd_T67 (rd_L6 l0_0 x15_1) x22_2).f2))) (fun _ hk => hk.2) (.int .i64 ((rd_T67 (rd_L6 l0_0 x15_1) x22_2).f3))) (fun _ hk => trivial))); (case aS => exact (below_size (by repeat (first | (with_reducible first | exact HB.out | apply below_alloc | apply pw_below_drewN | apply below_drew1 | refine below_set ?_ GE124.out | refine below_set ?_ GE125.out | refine below_set ?_ GE126.out | refine below_set ?_ GE132.out) | exact HB.out)))); (case aL => have := LMc19.out; omega); intro v134 w25 ho hb hg hat; rw [← Ny133.out] at ho; have n0_ := Aside0.mk (Kd.S_after (ok := (fun _ => True)) (by (with_reducible repeat (first | apply Kd.S_alloc | apply Kd.S_drewN | apply Kd.S_drew)); exact Kd.S_mono (Kd.S_far (p := ⟨gb132, 3, none⟩) (Kd.S_far (p := ⟨gb132, 2, none⟩) (Kd.S_far (p := ⟨gb132, 1, none⟩) (Kd.S_far (p := ⟨gb132, 0, none⟩) (Kd.S_types HO_127000.out BK132.out (by decide)) (fun _ hk => hk.2) (.bool ((rd_T67 (rd_L6 l0_0 x15_1) x22_2).f0))) (fun _ hk => hk.2) (.int .i64 ((rd_T67 (rd_L6 l0_0 x15_1) x22_2).f1))) (fun _ hk => hk.2) (.int .i64 ((rd_T67 (rd_L6 l0_0 x15_1) x22_2).f2))) (fun _ hk => hk.2) (.int .i64 ((rd_T67 (rd_L6 l0_0 x15_1) x22_2).f3))) (fun _ hk => ⟨trivial, hk.1⟩)) hg hat); have n1_ := Aside0.mk (blk_grown (g := gb124) (o := .cells #[.slice (some ad127) l0_0.length c0_0, .bool a0_1] 34 (0, 0)) (by (with_reducible repeat (first | refine blk_drewN ?_ _ | refine blk_drew ?_ | refine blk_alloc ?_ _)); refine blk_far ?_ NB124_132.out _; (with_reducible repeat (first | refine blk_drewN ?_ _ | refine blk_drew ?_ | refine blk_alloc ?_ _)); refine blk_far ?_ NB124_132.out _; (with_reducible repeat (first | refine blk_drewN ?_ _ | refine blk_drew ?_ | refine blk_alloc ?_ _)); refine blk_far ?_ NB124_132.out _; (with_reducible repeat (first | refine blk_drewN ?_ _ | refine blk_drew ?_ | refine blk_alloc ?_ _)); refine blk_far ?_ NB124_132.out _; (with_reducible repeat (first | refine blk_drewN ?_ _ | refine blk_drew ?_ | refine blk_alloc ?_ _)); exact BK124.out) hg (Kd.R_ne HO_6.out BK124.out (by decide))); have n2_ := Aside0.mk (blk_grown (g := gb125) (o := .cells #[.slice none 0 0, .bool false] 38 (0, 0)) (by (with_reducible repeat (first | refine blk_drewN ?_ _ | refine blk_drew ?_ | refine blk_alloc ?_ _)); refine blk_far ?_ NB125_132.out _; (with_reducible repeat (first | refine blk_drewN ?_ _ | refine blk_drew ?_ | refine blk_alloc ?_ _)); refine blk_far ?_ NB125_132.out _; (with_reducible repeat (first | refine blk_drewN ?_ _ | refine blk_drew ?_ | refine blk_alloc ?_ _)); refine blk_far ?_ NB125_132.out _; (with_reducible repeat (first | refine blk_drewN ?_ _ | refine blk_drew ?_ | refine blk_alloc ?_ _)); refine blk_far ?_ NB125_132.out _; (with_reducible repeat (first | refine blk_drewN ?_ _ | refine blk_drew ?_ | refine blk_alloc ?_ _)); exact BK125.out) hg (Kd.R_ne HO_6.out BK125.out (by decide))); have n3_ := Aside0.mk (blk_grown (g := gb126) (o := .cells #[u127000, .bool a0_1] 38 (0, 0)) (by (with_reducible repeat (first | refine blk_drewN ?_ _ | refine blk_drew ?_ | refine blk_alloc ?_ _)); refine blk_far ?_ NB126_132.out _; (with_reducible repeat (first | refine blk_drewN ?_ _ | refine blk_drew ?_ | refine blk_alloc ?_ _)); refine blk_far ?_ NB126_132.out _; (with_reducible repeat (first | refine blk_drewN ?_ _ | refine blk_drew ?_ | refine blk_alloc ?_ _)); refine blk_far ?_ NB126_132.out _; (with_reducible repeat (first | refine blk_drewN ?_ _ | refine blk_drew ?_ | refine blk_alloc ?_ _)); refine blk_far ?_ NB126_132.out _; (with_reducible repeat (first | refine blk_drewN ?_ _ | refine blk_drew ?_ | refine blk_alloc ?_ _)); exact BK126.out) hg (Kd.R_ne HO_6.out BK126.out (by decide))); have n4_ := Aside0.mk (blk_grown (g := gb132) (o := .cells #[.bool ((rd_T67 (rd_L6 l0_0 x15_1) x22_2).f0), .int .i64 ((rd_T67 (rd_L6 l0_0 x15_1) x22_2).f1), .int .i64 ((rd_T67 (rd_L6 l0_0 x15_1) x22_2).f2), .int .i64 ((rd_T67 (rd_L6 l0_0 x15_1) x22_2).f3)] 67 (0, 0)) (by (with_reducible repeat (first | refine blk_drewN ?_ _ | refine blk_drew ?_ | refine blk_alloc ?_ _)); refine blk_put (cs := #[.bool ((rd_T67 (rd_L6 l0_0 x15_1) x22_2).f0), .int .i64 ((rd_T67 (rd_L6 l0_0 x15_1) x22_2).f1), .int .i64 ((rd_T67 (rd_L6 l0_0 x15_1) x22_2).f2), .int .i64 0]) ?_ 3 _ rfl; (with_reducible repeat (first | refine blk_drewN ?_ _ | refine blk_drew ?_ | refine blk_alloc ?_ _)); refine blk_put (cs := #[.bool ((rd_T67 (rd_L6 l0_0 x15_1) x22_2).f0), .int .i64 ((rd_T67 (rd_L6 l0_0 x15_1) x22_2).f1), .int .i64 0, .int .i64 0]) ?_ 2 _ rfl; (with_reducible repeat (first | refine blk_drewN ?_ _ | refine blk_drew ?_ | refine blk_alloc ?_ _)); refine blk_put (cs := #[.bool ((rd_T67 (rd_L6 l0_0 x15_1) x22_2).f0), .int .i64 0, .int .i64 0, .int .i64 0]) ?_ 1 _ rfl; (with_reducible repeat (first | refine blk_drewN ?_ _ | refine blk_drew ?_ | refine blk_alloc ?_ _)); refine blk_put (cs := #[.bool false, .int .i64 0, .int .i64 0, .int .i64 0]) ?_ 0 _ rfl; (with_reducible repeat (first | refine blk_drewN ?_ _ | refine blk_drew ?_ | refine blk_alloc ?_ _)); exact BK132.out) hg (Kd.R_ne HO_6.out BK132.out (by decide))); have n5_ := Aside0.mk (hb); have n6_ := Aside0.mk (ho); clear HO_127000; clear BK124; clear BK125; clear BK126; clear BK132; clear HB; clear HO_6; have HO_127000 := n0_; have BK124 := n1_; have BK125 := n2_; have BK126 := n3_; have BK132 := n4_; have HB := n5_; have HO135 := n6_; clear n0_ n1_ n2_ n3_ n4_ n5_ n6_; clear ho hb hg hat))
                        go_roundg k2
                        case measure => have := HK1.out; have := HK2.out; omega
                        case rel => exact ⟨(y133), (wrap64 (x22_2 + 1)), (by first | rfl | (simp; done) | (simp [*]; done)), H', ⟨by have := HK1.out; have := HK2.out; omega⟩, ⟨by (with_reducible repeat (first | apply Kd.R_alloc | apply Kd.R_drewN | apply Kd.R_drew)); exact HO135.out⟩, ⟨by (with_reducible repeat (first | apply Kd.S_alloc | apply Kd.S_drewN | apply Kd.S_drew)); exact Kd.S_mono HO_127000.out (fun _ hk => hk.2)⟩, ⟨by (with_reducible repeat (first | refine blk_drewN ?_ _ | refine blk_drew ?_ | refine blk_alloc ?_ _)); exact BK124.out⟩, ⟨by (with_reducible repeat (first | refine blk_drewN ?_ _ | refine blk_drew ?_ | refine blk_alloc ?_ _)); exact BK125.out⟩, ⟨by (with_reducible repeat (first | refine blk_drewN ?_ _ | refine blk_drew ?_ | refine blk_alloc ?_ _)); exact BK126.out⟩, ⟨by repeat (first | (with_reducible first | exact HB.out | apply below_alloc | apply pw_below_drewN | apply below_drew1 | refine below_set ?_ GE124.out | refine below_set ?_ GE125.out | refine below_set ?_ GE126.out | refine below_set ?_ GE132.out) | exact HB.out)⟩⟩
                      · rw [if_neg c19] at H
                        exact absurd H (by simp)
                    · rw [if_neg c18] at H
                      exact absurd H (by simp)
                  · rw [if_neg c17] at H
                    exact absurd H (by simp)
                · rw [if_neg c16] at H
                  have c16b0 : decide (x22_2 < ((rd_L6 l0_0 x15_1).length : Int)) = false := decide_eq_false c16
                  clear c16
                  by_cases c26 : x127000_1.length < 5864062014805
                  · rw [if_pos c26] at H
                    have LMc26 := Aside0.mk c26
                    clear c26
                    obtain ⟨y136, hy136⟩ : ∃ y_ : List (List (S57)), y_ = (x127000_1 ++ [x6_2]) := ⟨_, rfl⟩
                    replace H : (laws_expr.l0 k2 l0_0 (l0_0.length : Int) (wrap64 (x15_1 + 1)) y136 a0_1) = some (r1, r2) := by first | (rw [hy136]; with_reducible exact H) | (have H2_ := (Option.bind_some _ _).symm.trans H; rw [hy136]; with_reducible exact H2_) | (have H2_ := (Option.bind_some _ _).symm.trans H; with_reducible exact H2_) | with_reducible exact H | (rw [hy136]; exact H) | exact H
                    have Ny136 := Aside0.mk hy136
                    clear hy136
                    have H' := Aside0.mk H
                    clear H
                    have hnb27 := NB126_124.out
                    have hnc27 := NB124_126.out
                    have hnb28 := NB126_125.out
                    have hnc28 := NB125_126.out
                    have hcz29_0 : wr.cell? ⟨gb126, 0, none⟩ = some (u127000) := (blk_cell BK126.out 0).trans rfl
                    have hcz29_1 : wr.cell? ⟨gb126, 1, none⟩ = some (.bool a0_1) := (blk_cell BK126.out 1).trans rfl
                    have hfz29_0 := blk_frozen BK126.out 0
                    have hfz29_1 := blk_frozen BK126.out 1
                    obtain ⟨Ao31, co31, eo31⟩ := Kd.R_slice HO_6.out
                    subst eo31
                    go_wp2_with (first | ((with_reducible refine gate_builtin (b := .append) (xs := #[.tmp 40, .tmp 42]) rfl ?_); at_builtin; refine Kd.S_append (Kd.slice 57 k57) (w0 := w) w.heap.size rfl (.tmp 40) (.tmp 42) 36 55 (.slice none 0 0) 24 rfl Tryz.underlying36 info55 rfl (by decide) (by omega) u127000 x127000_1 x6_2 [.slice Ao31 x6_2.length co31] (fun _ => True) (fun k_ => some k_ = (.slice Ao31 x6_2.length co31 : Value).ownBlock) rfl rfl ?aP (fun k_ hk_ => ((Kd.R_mono (ok' := fun k_ => ((fun _ => True)) k_ ∧ some k_ ≠ (u127000 : Value).ownBlock) (Kd.R_apart' (HO_6.out) (Kd.S_typed HO_127000.out) (by decide)) (fun k_ hk => ⟨trivial, hk.2⟩))).1 k_ hk_.symm) ?aF ?aO ?aB ?aS ?aL ?_; (case aP => exact Kd.M_row (Kd.R_mono (Kd.R_tight rfl (Kd.R_mono (ok' := fun k_ => ((fun _ => True)) k_ ∧ some k_ ≠ (u127000 : Value).ownBlock) (Kd.R_apart' (HO_6.out) (Kd.S_typed HO_127000.out) (by decide)) (fun k_ hk => ⟨trivial, hk.2⟩))) (fun _ h_ => h_))); (case aB => exact (by repeat (first | (with_reducible first | exact HB.out | apply below_alloc | apply pw_below_drewN | apply below_drew1 | refine below_set ?_ GE124.out | refine below_set ?_ GE125.out | refine below_set ?_ GE126.out) | exact HB.out))); (case aF => exact (fun _ _ => trivial)); (case aO => exact (by (with_reducible repeat (first | apply Kd.S_alloc | apply Kd.S_drewN | apply Kd.S_drew)); exact Kd.S_mono HO_127000.out (fun k_ hk => ⟨trivial, fun e_ => hk e_⟩))); (case aS => exact (below_size (by repeat (first | (with_reducible first | exact HB.out | apply below_alloc | apply pw_below_drewN | apply below_drew1 | refine below_set ?_ GE124.out | refine below_set ?_ GE125.out | refine below_set ?_ GE126.out) | exact HB.out)))); (case aL => have := LMc26.out; omega); intro v137 w30 ho hb hg hat; rw [← Ny136.out] at ho; have n0_ := Aside0.mk (blk_grown (g := gb124) (o := .cells #[.slice (some ad127) l0_0.length c0_0, .bool a0_1] 34 (0, 0)) (by (with_reducible repeat (first | refine blk_drewN ?_ _ | refine blk_drew ?_ | refine blk_alloc ?_ _)); exact BK124.out) hg (Kd.S_ne HO_127000.out BK124.out (by decide))); have n1_ := Aside0.mk (blk_grown (g := gb125) (o := .cells #[.slice none 0 0, .bool false] 38 (0, 0)) (by (with_reducible repeat (first | refine blk_drewN ?_ _ | refine blk_drew ?_ | refine blk_alloc ?_ _)); exact BK125.out) hg (Kd.S_ne HO_127000.out BK125.out (by decide))); have n2_ := Aside0.mk (blk_grown (g := gb126) (o := .cells #[u127000, .bool a0_1] 38 (0, 0)) (by (with_reducible repeat (first | refine blk_drewN ?_ _ | refine blk_drew ?_ | refine blk_alloc ?_ _)); exact BK126.out) hg (Kd.S_ne HO_127000.out BK126.out (by decide))); have n3_ := Aside0.mk (hb); have n4_ := Aside0.mk (ho); clear BK124; clear BK125; clear BK126; clear HB; clear HO_127000; clear HO_6; have BK124 := n0_; have BK125 := n1_; have BK126 := n2_; have HB := n3_; have HO138 := n4_; clear n0_ n1_ n2_ n3_ n4_; clear ho hb hg hat; obtain ⟨Ao32, co32, eo32⟩ := Kd.S_slice HO138.out; subst eo32; have hcz33_0 : w30.cell? ⟨gb126, 0, none⟩ = some (u127000) := (blk_cell BK126.out 0).trans rfl; have hcz33_1 : w30.cell? ⟨gb126, 1, none⟩ = some (.bool a0_1) := (blk_cell BK126.out 1).trans rfl; have hfz33_0 := blk_frozen BK126.out 0; have hfz33_1 := blk_frozen BK126.out 1))
                    go_roundg k2
                    case measure => have := HK1.out; have := HK2.out; omega
                    case rel => exact ⟨(wrap64 (x15_1 + 1)), (y136), (.slice Ao32 y136.length co32), (by first | rfl | (simp; done) | (simp [*]; done)), H', ⟨by have := HK1.out; have := HK2.out; omega⟩, ⟨by (with_reducible repeat (first | apply Kd.S_alloc | apply Kd.S_drewN | apply Kd.S_drew)); exact Kd.S_mono (Kd.S_far (p := ⟨gb126, 0, none⟩) (Kd.S_types HO138.out BK126.out (by decide)) (fun _ hk => hk.2) (.slice Ao32 y136.length co32)) (fun _ hk => trivial)⟩, ⟨by (with_reducible repeat (first | refine blk_drewN ?_ _ | refine blk_drew ?_ | refine blk_alloc ?_ _)); refine blk_far ?_ NB124_126.out _; (with_reducible repeat (first | refine blk_drewN ?_ _ | refine blk_drew ?_ | refine blk_alloc ?_ _)); exact BK124.out⟩, ⟨by (with_reducible repeat (first | refine blk_drewN ?_ _ | refine blk_drew ?_ | refine blk_alloc ?_ _)); refine blk_far ?_ NB125_126.out _; (with_reducible repeat (first | refine blk_drewN ?_ _ | refine blk_drew ?_ | refine blk_alloc ?_ _)); exact BK125.out⟩, ⟨by (with_reducible repeat (first | refine blk_drewN ?_ _ | refine blk_drew ?_ | refine blk_alloc ?_ _)); refine blk_put (cs := #[u127000, .bool a0_1]) ?_ 0 _ rfl; (with_reducible repeat (first | refine blk_drewN ?_ _ | refine blk_drew ?_ | refine blk_alloc ?_ _)); exact BK126.out⟩, ⟨by repeat (first | (with_reducible first | exact HB.out | apply below_alloc | apply pw_below_drewN | apply below_drew1 | refine below_set ?_ GE124.out | refine below_set ?_ GE125.out | refine below_set ?_ GE126.out) | exact HB.out)⟩⟩
                  · rw [if_neg c26] at H
                    exact absurd H (by simp)
          · rw [if_neg c13] at H
            exact absurd H (by simp)
        · rw [if_neg c12] at H
          exact absurd H (by simp)
      · rw [if_neg c11] at H
        have c11b0 : decide (x15_1 < (l0_0.length : Int)) = false := decide_eq_false c11
        clear c11
        simp only [Option.some.injEq, Prod.mk.injEq] at H
        obtain ⟨rfl, rfl⟩ := H
        have hnb34 := NB126_124.out
        have hnc34 := NB124_126.out
        have hnb35 := NB126_125.out
        have hnc35 := NB125_126.out
        have hcz36_0 : wr.cell? ⟨gb126, 0, none⟩ = some (u127000) := (blk_cell BK126.out 0).trans rfl
        have hcz36_1 : wr.cell? ⟨gb126, 1, none⟩ = some (.bool a0_1) := (blk_cell BK126.out 1).trans rfl
        have hfz36_0 := blk_frozen BK126.out 0
        have hfz36_1 := blk_frozen BK126.out 1
        obtain ⟨Ao37, co37, eo37⟩ := Kd.S_slice HO_127000.out
        subst eo37
        have hnb38 := NB125_124.out
        have hnc38 := NB124_125.out
        have hcz39_0 : wr.cell? ⟨gb125, 0, none⟩ = some (.slice none 0 0) := (blk_cell BK125.out 0).trans rfl
        have hcz39_1 : wr.cell? ⟨gb125, 1, none⟩ = some (.bool false) := (blk_cell BK125.out 1).trans rfl
        have hfz39_0 := blk_frozen BK125.out 0
        have hfz39_1 := blk_frozen BK125.out 1
        go_wp2
        refine bodyPost_ret (results_cell_row rfl _ _ gb125 38 #[.slice Ao37 x127000_1.length co37, .bool a0_1] (0, 0) _ rfl (by (with_reducible repeat (first | refine blk_drewN ?_ _ | refine blk_drew ?_ | refine blk_alloc ?_ _)); refine blk_put (cs := #[.slice Ao37 x127000_1.length co37, .bool false]) ?_ 1 _ rfl; (with_reducible repeat (first | refine blk_drewN ?_ _ | refine blk_drew ?_ | refine blk_alloc ?_ _)); refine blk_put (cs := #[.slice none 0 0, .bool false]) ?_ 0 _ rfl; (with_reducible repeat (first | refine blk_drewN ?_ _ | refine blk_drew ?_ | refine blk_alloc ?_ _)); exact BK125.out) Tryz.underlying38 rfl (by kernel_rfl)) rfl ?_
        exact ⟨_, by first | rfl | (simp [errW_none, errW_some] <;> rfl) | (simp [*, errW_none, errW_some] <;> rfl), by (with_reducible repeat (first | apply Kd.S_alloc | apply Kd.S_drewN | apply Kd.S_drew)); exact Kd.S_mono (Kd.S_far (p := ⟨gb125, 1, none⟩) (Kd.S_far (p := ⟨gb125, 0, none⟩) (Kd.S_types HO_127000.out BK125.out (by decide)) (fun _ hk => hk.2) (.slice Ao37 x127000_1.length co37)) (fun _ hk => hk.2) (.bool a0_1)) (fun _ hk => trivial), by repeat (first | (with_reducible first | exact HB.out | apply below_alloc | apply pw_below_drewN | apply below_drew1 | refine below_set ?_ GE124.out | refine below_set ?_ GE125.out | refine below_set ?_ GE126.out) | exact HB.out)⟩
end Go.Proofs.YtkhgeonlohafgaaGreatDoor.Core
namespace Go.Proofs.YtkhgeonlohafgaaGreatDoor.Core
open Go.RowKit Go.Proofs.YtkhgeonlohafgaaGreatDoorW.PrintWords Go.Proofs.YtkhgeonlohafgaaGreatDoorW.PrintLast Go.Proofs.YtkhgeonlohafgaaGreatDoorW.PrintMore
attribute [local go_sem] max2_int min2_int max_two min_two max_three min_three max_four min_four   -- for this text's walks alone
set_option linter.unusedVariables false
set_option linter.unusedSimpArgs false
theorem eqA57 (d : Nat) (w : World) (x0 y0 : Bool) (x1 y1 : Int) (x2 y2 : Int) (x3 y3 : Int) :
    (Op.equalIn (d + 2) 57 (.agg #[.bool x0, .int .i64 x1, .int .i64 x2, .int .i64 x3]) (.agg #[.bool y0, .int .i64 y1, .int .i64 y2, .int .i64 y3])).run Tryz.prog w = .ok (x0 == y0 && (x1 == y1 && (x2 == y2 && (x3 == y3)))) w := by
  refine eqA_of Tryz.underlying57 (by kernel_rfl) ?_
  refine eqf_cons (by rfl) (by go_simp; rfl) (by go_simp; rfl) (by go_simp) ?_
  refine eqf_cons (by rfl) (by go_simp; rfl) (by go_simp; rfl) (by go_simp) ?_
  refine eqf_cons (by rfl) (by go_simp; rfl) (by go_simp; rfl) (by go_simp) ?_
  exact eqf_last (by rfl) (by go_simp; rfl) (by go_simp; rfl) (by go_simp)
end Go.Proofs.YtkhgeonlohafgaaGreatDoor.Core
namespace Go.Proofs.YtkhgeonlohafgaaGreatDoor.Core
open Go.RowKit Go.Proofs.YtkhgeonlohafgaaGreatDoorW.PrintWords Go.Proofs.YtkhgeonlohafgaaGreatDoorW.PrintLast Go.Proofs.YtkhgeonlohafgaaGreatDoorW.PrintMore
attribute [local go_sem] max2_int min2_int max_two min_two max_three min_three max_four min_four   -- for this text's walks alone
set_option linter.unusedVariables false
set_option linter.unusedSimpArgs false
def spec_Low.f (a0 : Int) : Option (Int) := if a0 = 3 then (some 1) else (if a0 = 4 then (some 1) else (some 0))
set_option maxHeartbeats 8000000 in
set_option maxRecDepth 100000 in
theorem spec_Low.calls (a0 : Int) (r : Int) (w : World) (h : spec_Low.f a0 = some r) :
    Calls Tryz.prog 17 #[.int .i64 a0] w fun e w' => e = .returned (.int .i64 r) ∧ Drawn0 w w' := by
  have H : (if a0 = 3 then (some 1) else (if a0 = 4 then (some 1) else (some 0))) = some r := h
  clear h
  by_cases c2 : a0 = 3
  · rw [if_pos c2] at H
    have c2b0 : (a0 == 3) = true := beq_iff_eq.mpr c2
    have c2b1 : (a0 != 3) = false := bne_eq_false_iff_eq.mpr c2
    clear c2
    obtain rfl := Option.some.inj H
    go_enter Tryz.func17, Tryz.ntmps17
    go_wp2
    go_ret
    exact ⟨by first | rfl | (simp; done) | (simp [*]; done), by repeat (first | exact Drawn0.refl _ | apply Drawn0.step)⟩
  · rw [if_neg c2] at H
    have c2b0 : (a0 == 3) = false := beq_eq_false_iff_ne.mpr c2
    have c2b1 : (a0 != 3) = true := bne_iff_ne.mpr c2
    by_cases c3 : a0 = 4
    · rw [if_pos c3] at H
      have c3b0 : (a0 == 4) = true := beq_iff_eq.mpr c3
      have c3b1 : (a0 != 4) = false := bne_eq_false_iff_eq.mpr c3
      clear c3
      obtain rfl := Option.some.inj H
      go_enter Tryz.func17, Tryz.ntmps17
      go_wp2
      go_ret
      exact ⟨by first | rfl | (simp; done) | (simp [*]; done), by repeat (first | exact Drawn0.refl _ | apply Drawn0.step)⟩
    · rw [if_neg c3] at H
      have c3b0 : (a0 == 4) = false := beq_eq_false_iff_ne.mpr c3
      have c3b1 : (a0 != 4) = true := bne_iff_ne.mpr c3
      obtain rfl := Option.some.inj H
      go_enter Tryz.func17, Tryz.ntmps17
      go_wp2
      go_ret
      exact ⟨by first | rfl | (simp; done) | (simp [*]; done), by repeat (first | exact Drawn0.refl _ | apply Drawn0.step)⟩
end Go.Proofs.YtkhgeonlohafgaaGreatDoor.Core
namespace Go.Proofs.YtkhgeonlohafgaaGreatDoor.Core
open Go.RowKit Go.Proofs.YtkhgeonlohafgaaGreatDoorW.PrintWords Go.Proofs.YtkhgeonlohafgaaGreatDoorW.PrintLast Go.Proofs.YtkhgeonlohafgaaGreatDoorW.PrintMore
attribute [local go_sem] max2_int min2_int max_two min_two max_three min_three max_four min_four   -- for this text's walks alone
set_option linter.unusedVariables false
set_option linter.unusedSimpArgs false
def spec_High.f (a0 : Int) : Option (Int) := if 0 ≤ a0 then (if a0 < 6 then (some (rd [59, 59, 23, 31, 12, 6] a0)) else (none)) else (none)
set_option maxHeartbeats 8000000 in
set_option maxRecDepth 100000 in
theorem spec_High.calls (a0 : Int) (r : Int) (w : World) (h : spec_High.f a0 = some r) :
    Calls Tryz.prog 18 #[.int .i64 a0] w fun e w' => e = .returned (.int .i64 r) ∧ Drawn0 w w' := by
  have hu50 := Tryz.underlying50
  have H : (if 0 ≤ a0 then (if a0 < 6 then (some (rd [59, 59, 23, 31, 12, 6] a0)) else (none)) else (none)) = some r := h
  clear h
  by_cases c2 : 0 ≤ a0
  · rw [if_pos c2] at H
    have c2b0 : decide (0 ≤ a0) = true := decide_eq_true c2
    clear c2
    by_cases c3 : a0 < 6
    · rw [if_pos c3] at H
      have c3b0 : decide (a0 < 6) = true := decide_eq_true c3
      clear c3
      have hixz105_ := fun w_ : World => (index_T50 59 59 23 31 12 6 a0 (of_decide_eq_true (by first | (with_reducible assumption) | assumption)) (of_decide_eq_true (by first | (with_reducible assumption) | assumption)) w_ : (Instr.index 50 (.agg #[.int .i64 59, .int .i64 59, .int .i64 23, .int .i64 31, .int .i64 12, .int .i64 6]) (.int .i64 a0)).run Tryz.prog w_ = .ok (.int .i64 (rd [59, 59, 23, 31, 12, 6] a0)) w_)
      obtain rfl := Option.some.inj H
      go_enter Tryz.func18, Tryz.ntmps18
      go_wp2
      go_ret
      exact ⟨by first | rfl | (simp; done) | (simp [*]; done), by repeat (first | exact Drawn0.refl _ | apply Drawn0.step)⟩
    · rw [if_neg c3] at H
      exact absurd H (by simp)
  · rw [if_neg c2] at H
    exact absurd H (by simp)
end Go.Proofs.YtkhgeonlohafgaaGreatDoor.Core
namespace Go.Proofs.YtkhgeonlohafgaaGreatDoor.Core
open Go.RowKit Go.Proofs.YtkhgeonlohafgaaGreatDoorW.PrintWords Go.Proofs.YtkhgeonlohafgaaGreatDoorW.PrintLast Go.Proofs.YtkhgeonlohafgaaGreatDoorW.PrintMore
attribute [local go_sem] max2_int min2_int max_two min_two max_three min_three max_four min_four   -- for this text's walks alone
set_option linter.unusedVariables false
set_option linter.unusedSimpArgs false
mutual
def spec_Good.l0 : Nat → Int → List (S57) → List (S57) → Int → Int → Option (Bool)
  | 0, _, _, _, _, _ => none
  | k + 1, x0, x1, x7, x8, x9 => if x9 < x8 then (if 0 ≤ x9 then (if x9 < (x7.length : Int) then (if ((rd_T57 x7 x9).f3) < 1 then (spec_Good.j1 k x0 x1 x7 x8 x9 true ((rd_T57 x7 x9).f0) ((rd_T57 x7 x9).f1) ((rd_T57 x7 x9).f2) ((rd_T57 x7 x9).f3)) else (spec_Good.j1 k x0 x1 x7 x8 x9 (decide (((rd_T57 x7 x9).f3) > 60)) ((rd_T57 x7 x9).f0) ((rd_T57 x7 x9).f1) ((rd_T57 x7 x9).f2) ((rd_T57 x7 x9).f3))) else (none)) else (none)) else (if (x1.length : Int) ≥ 1 then (some (decide ((x1.length : Int) ≤ 6))) else (some false))
def spec_Good.j1 : Nat → Int → List (S57) → List (S57) → Int → Int → Bool → Bool → Int → Int → Int → Option (Bool)
  | 0, _, _, _, _, _, _, _, _, _, _ => none
  | k + 1, x0, x1, x7, x8, x9, x20, x141000, x141001, x141002, x141003 => if x20 = true then (some false) else (if x141000 = true then (spec_Good.l0 k x0 x1 x7 x8 (wrap64 (x9 + 1))) else ((spec_Low.f x0).bind fun t141 => (if x141001 < t141 then (some false) else ((spec_High.f x0).bind fun t142 => (if x141002 > t142 then (some false) else (if x141001 > x141002 then (some false) else (spec_Good.l0 k x0 x1 x7 x8 (wrap64 (x9 + 1)))))))))
end
def spec_Good.f (k : Nat) (a0 : Int) (l1 : List (S57)) : Option (Bool) := spec_Good.l0 k a0 l1 l1 (l1.length : Int) 0
set_option maxHeartbeats 8000000 in
set_option maxRecDepth 100000 in
theorem spec_Good.calls (k : Nat) (a0 : Int) (A1 : Option Addr) (c1 : Nat) (l1 : List (S57)) (r : Bool) (w : World) (hr1 : Kd.C k57 w A1 l1.length l1) (hc1 : l1.length ≤ c1) (h : spec_Good.f k a0 l1 = some r) :
    Calls Tryz.prog 47 #[.int .i64 a0, .slice A1 l1.length c1] w fun e w' => e = .returned (.bool r) ∧ Below w.heap.size w w' := by
  have hu57 := Tryz.underlying57
  have HR1 := Aside0.mk hr1
  have HC1 := Aside0.mk hc1
  clear hr1 hc1
  have HB := Aside0.mk (Below.refl w.heap.size w)
  have H : (spec_Good.l0 k a0 l1 l1 (l1.length : Int) 0) = some r := h
  clear h
  have H' := Aside0.mk H
  clear H
  go_enter Tryz.func47, Tryz.ntmps47
  go_wp2
  repeat (go_quiet (fail); try go_wp2)
  go_loopg [9] k (fun kq v9 w' => ∃ (x9_1 : Int), v9 = .int .i64 x9_1 ∧ Aside0 (spec_Good.l0 kq a0 l1 l1 (l1.length : Int) x9_1 = some r) ∧ Aside0 (kq ≤ k) ∧ Aside0 (Below w.heap.size w w'))
  case atStart => exact ⟨(0), (by first | rfl | (simp; done) | (simp [*]; done)), H', ⟨Nat.le_refl _⟩, ⟨by repeat (first | (with_reducible first | exact HB.out | apply below_alloc | apply pw_below_drewN | apply below_drew1) | exact HB.out)⟩⟩
  case round =>
    clear H'
    try clear c1
    try clear p2
    obtain ⟨x9_1, rfl, HA, HK1, HB⟩ := hrel
    cases gk with
    | zero => exact absurd HA.out (by simp [spec_Good.l0])
    | succ k1 =>
      have H := HA.out
      clear HA
      simp only [spec_Good.l0] at H
      by_cases c3 : x9_1 < (l1.length : Int)
      · rw [if_pos c3] at H
        have c3b0 : decide (x9_1 < (l1.length : Int)) = true := decide_eq_true c3
        clear c3
        by_cases c4 : 0 ≤ x9_1
        · rw [if_pos c4] at H
          have c4b0 : decide (0 ≤ x9_1) = true := decide_eq_true c4
          clear c4
          by_cases c5 : x9_1 < (l1.length : Int)
          · rw [if_pos c5] at H
            have c5b0 : decide (x9_1 < (l1.length : Int)) = true := decide_eq_true c5
            clear c5
            have HC6 := Aside0.mk H
            clear H
            have p139 : 0 ≤ (x9_1 : Int) := of_decide_eq_true (by first | (with_reducible assumption) | assumption)
            have q139 : x9_1 < (l1.length : Int) := of_decide_eq_true (by first | (with_reducible assumption) | assumption)
            obtain ⟨ad139, e139, hx139_0, hx139_1, hx139_2, hx139_3⟩ := at_T57 HR1.out x9_1 p139 q139
            cases e139
            replace hx139_0 := (HB.out.cell (World.block_lt_of_cell? w _ hx139_0)).trans hx139_0
            replace hx139_1 := (HB.out.cell (World.block_lt_of_cell? w _ hx139_1)).trans hx139_1
            replace hx139_2 := (HB.out.cell (World.block_lt_of_cell? w _ hx139_2)).trans hx139_2
            replace hx139_3 := (HB.out.cell (World.block_lt_of_cell? w _ hx139_3)).trans hx139_3
            replace p139 := eq_true p139
            replace q139 := eq_true q139
            go_upto_region 4 with (first | ((with_reducible refine gate_dst (N := 6) rfl ?_); (try (refine gate_guard (by rfl) ?_; dsimp only)); refine box_event ?hg (N := 6) ?hd (cs := #[.bool false, .int .i64 0, .int .i64 0, .int .i64 0]) (t := 57) ?hr ?_; (case hd => rfl); (case hg => rfl); (case hr => first | (go_simp; done) | (go_simp; rfl)); intro gb140 hg w7 hbox hb; have n0_ := Aside0.mk (below_step (by repeat (first | (with_reducible first | exact HB.out | apply below_alloc | apply pw_below_drewN | apply below_drew1) | exact HB.out)) hb); have n1_ := Aside0.mk (hbox); have n2_ := Aside0.mk ((by rw [hg]; exact (below_size (by repeat (first | (with_reducible first | exact HB.out | apply below_alloc | apply pw_below_drewN | apply below_drew1) | exact HB.out))) : w.heap.size ≤ gb140)); have n3_ := Aside0.mk ((by rw [hg]; exact (below_size (by repeat (first | (with_reducible first | exact HB.out | apply below_alloc | apply pw_below_drewN | apply below_drew1) | exact HB.out))) : w.heap.size ≤ gb140)); clear HB; have HB := n0_; have BK140 := n1_; have GW140 := n2_; have GE140 := n3_; clear n0_ n1_ n2_ n3_; clear hb hbox hg; have hcz8_0 : w7.cell? ⟨gb140, 0, none⟩ = some (.bool false) := (blk_cell BK140.out 0).trans rfl; have hcz8_1 : w7.cell? ⟨gb140, 1, none⟩ = some (.int .i64 0) := (blk_cell BK140.out 1).trans rfl; have hcz8_2 : w7.cell? ⟨gb140, 2, none⟩ = some (.int .i64 0) := (blk_cell BK140.out 2).trans rfl; have hcz8_3 : w7.cell? ⟨gb140, 3, none⟩ = some (.int .i64 0) := (blk_cell BK140.out 3).trans rfl; have hfz8_0 := blk_frozen BK140.out 0; have hfz8_1 := blk_frozen BK140.out 1; have hfz8_2 := blk_frozen BK140.out 2; have hfz8_3 := blk_frozen BK140.out 3))
            repeat (go_quiet (first | ((with_reducible refine gate_dst (N := 6) rfl ?_); (try (refine gate_guard (by rfl) ?_; dsimp only)); refine box_event ?hg (N := 6) ?hd (cs := #[.bool false, .int .i64 0, .int .i64 0, .int .i64 0]) (t := 57) ?hr ?_; (case hd => rfl); (case hg => rfl); (case hr => first | (go_simp; done) | (go_simp; rfl)); intro gb140 hg w7 hbox hb; have n0_ := Aside0.mk (below_step (by repeat (first | (with_reducible first | exact HB.out | apply below_alloc | apply pw_below_drewN | apply below_drew1) | exact HB.out)) hb); have n1_ := Aside0.mk (hbox); have n2_ := Aside0.mk ((by rw [hg]; exact (below_size (by repeat (first | (with_reducible first | exact HB.out | apply below_alloc | apply pw_below_drewN | apply below_drew1) | exact HB.out))) : w.heap.size ≤ gb140)); have n3_ := Aside0.mk ((by rw [hg]; exact (below_size (by repeat (first | (with_reducible first | exact HB.out | apply below_alloc | apply pw_below_drewN | apply below_drew1) | exact HB.out))) : w.heap.size ≤ gb140)); clear HB; have HB := n0_; have BK140 := n1_; have GW140 := n2_; have GE140 := n3_; clear n0_ n1_ n2_ n3_; clear hb hbox hg; have hcz8_0 : w7.cell? ⟨gb140, 0, none⟩ = some (.bool false) := (blk_cell BK140.out 0).trans rfl; have hcz8_1 : w7.cell? ⟨gb140, 1, none⟩ = some (.int .i64 0) := (blk_cell BK140.out 1).trans rfl; have hcz8_2 : w7.cell? ⟨gb140, 2, none⟩ = some (.int .i64 0) := (blk_cell BK140.out 2).trans rfl; have hcz8_3 : w7.cell? ⟨gb140, 3, none⟩ = some (.int .i64 0) := (blk_cell BK140.out 3).trans rfl; have hfz8_0 := blk_frozen BK140.out 0; have hfz8_1 := blk_frozen BK140.out 1; have hfz8_2 := blk_frozen BK140.out 2; have hfz8_3 := blk_frozen BK140.out 3)); go_upto_region 4 with (first | ((with_reducible refine gate_dst (N := 6) rfl ?_); (try (refine gate_guard (by rfl) ?_; dsimp only)); refine box_event ?hg (N := 6) ?hd (cs := #[.bool false, .int .i64 0, .int .i64 0, .int .i64 0]) (t := 57) ?hr ?_; (case hd => rfl); (case hg => rfl); (case hr => first | (go_simp; done) | (go_simp; rfl)); intro gb140 hg w7 hbox hb; have n0_ := Aside0.mk (below_step (by repeat (first | (with_reducible first | exact HB.out | apply below_alloc | apply pw_below_drewN | apply below_drew1) | exact HB.out)) hb); have n1_ := Aside0.mk (hbox); have n2_ := Aside0.mk ((by rw [hg]; exact (below_size (by repeat (first | (with_reducible first | exact HB.out | apply below_alloc | apply pw_below_drewN | apply below_drew1) | exact HB.out))) : w.heap.size ≤ gb140)); have n3_ := Aside0.mk ((by rw [hg]; exact (below_size (by repeat (first | (with_reducible first | exact HB.out | apply below_alloc | apply pw_below_drewN | apply below_drew1) | exact HB.out))) : w.heap.size ≤ gb140)); clear HB; have HB := n0_; have BK140 := n1_; have GW140 := n2_; have GE140 := n3_; clear n0_ n1_ n2_ n3_; clear hb hbox hg; have hcz8_0 : w7.cell? ⟨gb140, 0, none⟩ = some (.bool false) := (blk_cell BK140.out 0).trans rfl; have hcz8_1 : w7.cell? ⟨gb140, 1, none⟩ = some (.int .i64 0) := (blk_cell BK140.out 1).trans rfl; have hcz8_2 : w7.cell? ⟨gb140, 2, none⟩ = some (.int .i64 0) := (blk_cell BK140.out 2).trans rfl; have hcz8_3 : w7.cell? ⟨gb140, 3, none⟩ = some (.int .i64 0) := (blk_cell BK140.out 3).trans rfl; have hfz8_0 := blk_frozen BK140.out 0; have hfz8_1 := blk_frozen BK140.out 1; have hfz8_2 := blk_frozen BK140.out 2; have hfz8_3 := blk_frozen BK140.out 3)))
            (try simp only [Act.put, List.setIfInBounds_toArray, List.set_cons_zero, List.set_cons_succ])
            go_cut [20] (fun v20 wc => ∃ (kq : Nat) (x20_5 : Bool), v20 = .bool x20_5 ∧ Aside0 (spec_Good.j1 kq a0 l1 l1 (l1.length : Int) x9_1 x20_5 ((rd_T57 l1 x9_1).f0) ((rd_T57 l1 x9_1).f1) ((rd_T57 l1 x9_1).f2) ((rd_T57 l1 x9_1).f3) = some r) ∧ Aside0 (kq ≤ k1) ∧ Aside0 (wc.heap[gb140]? = some (.cells #[.bool ((rd_T57 l1 x9_1).f0), .int .i64 ((rd_T57 l1 x9_1).f1), .int .i64 ((rd_T57 l1 x9_1).f2), .int .i64 ((rd_T57 l1 x9_1).f3)] 57 (0, 0))) ∧ Aside0 (Below w.heap.size w wc))
            case first =>
              have H := HC6.out
              clear HC6
              by_cases c9 : ((rd_T57 l1 x9_1).f3) < 1
              · rw [if_pos c9] at H
                have c9b0 : decide (((rd_T57 l1 x9_1).f3) < 1) = true := decide_eq_true c9
                clear c9
                (first | rw [c9b0] | (simp only [i64_w, i32_w]; rw [c9b0]) | skip)
                have H' := Aside0.mk H
                clear H
                have hcz10_0 : w7.cell? ⟨gb140, 0, none⟩ = some (.bool false) := (blk_cell BK140.out 0).trans rfl
                have hcz10_1 : w7.cell? ⟨gb140, 1, none⟩ = some (.int .i64 0) := (blk_cell BK140.out 1).trans rfl
                have hcz10_2 : w7.cell? ⟨gb140, 2, none⟩ = some (.int .i64 0) := (blk_cell BK140.out 2).trans rfl
                have hcz10_3 : w7.cell? ⟨gb140, 3, none⟩ = some (.int .i64 0) := (blk_cell BK140.out 3).trans rfl
                have hfz10_0 := blk_frozen BK140.out 0
                have hfz10_1 := blk_frozen BK140.out 1
                have hfz10_2 := blk_frozen BK140.out 2
                have hfz10_3 := blk_frozen BK140.out 3
                go_wp2
                repeat (go_quiet (fail); try go_wp2)
                go_meet
                case rel => exact ⟨_, (true), (by first | rfl | (simp; done) | (simp [*]; done)), H', ⟨by have := HK1.out; first | omega | exact Nat.le_refl _⟩, ⟨by (with_reducible repeat (first | refine blk_drewN ?_ _ | refine blk_drew ?_ | refine blk_alloc ?_ _)); refine blk_put (cs := #[.bool ((rd_T57 l1 x9_1).f0), .int .i64 ((rd_T57 l1 x9_1).f1), .int .i64 ((rd_T57 l1 x9_1).f2), .int .i64 0]) ?_ 3 _ rfl; (with_reducible repeat (first | refine blk_drewN ?_ _ | refine blk_drew ?_ | refine blk_alloc ?_ _)); refine blk_put (cs := #[.bool ((rd_T57 l1 x9_1).f0), .int .i64 ((rd_T57 l1 x9_1).f1), .int .i64 0, .int .i64 0]) ?_ 2 _ rfl; (with_reducible repeat (first | refine blk_drewN ?_ _ | refine blk_drew ?_ | refine blk_alloc ?_ _)); refine blk_put (cs := #[.bool ((rd_T57 l1 x9_1).f0), .int .i64 0, .int .i64 0, .int .i64 0]) ?_ 1 _ rfl; (with_reducible repeat (first | refine blk_drewN ?_ _ | refine blk_drew ?_ | refine blk_alloc ?_ _)); refine blk_put (cs := #[.bool false, .int .i64 0, .int .i64 0, .int .i64 0]) ?_ 0 _ rfl; (with_reducible repeat (first | refine blk_drewN ?_ _ | refine blk_drew ?_ | refine blk_alloc ?_ _)); exact BK140.out⟩, ⟨by repeat (first | (with_reducible first | exact HB.out | apply below_alloc | apply pw_below_drewN | apply below_drew1 | refine below_set ?_ GE140.out) | exact HB.out)⟩⟩
              · rw [if_neg c9] at H
                have c9b0 : decide (((rd_T57 l1 x9_1).f3) < 1) = false := decide_eq_false c9
                clear c9
                (first | rw [c9b0] | (simp only [i64_w, i32_w]; rw [c9b0]) | skip)
                have H' := Aside0.mk H
                clear H
                have hcz11_0 : w7.cell? ⟨gb140, 0, none⟩ = some (.bool false) := (blk_cell BK140.out 0).trans rfl
                have hcz11_1 : w7.cell? ⟨gb140, 1, none⟩ = some (.int .i64 0) := (blk_cell BK140.out 1).trans rfl
                have hcz11_2 : w7.cell? ⟨gb140, 2, none⟩ = some (.int .i64 0) := (blk_cell BK140.out 2).trans rfl
                have hcz11_3 : w7.cell? ⟨gb140, 3, none⟩ = some (.int .i64 0) := (blk_cell BK140.out 3).trans rfl
                have hfz11_0 := blk_frozen BK140.out 0
                have hfz11_1 := blk_frozen BK140.out 1
                have hfz11_2 := blk_frozen BK140.out 2
                have hfz11_3 := blk_frozen BK140.out 3
                go_wp2
                repeat (go_quiet (fail); try go_wp2)
                go_meet
                case rel => exact ⟨_, (decide (((rd_T57 l1 x9_1).f3) > 60)), (by first | rfl | (simp; done) | (simp [*]; done)), H', ⟨by have := HK1.out; first | omega | exact Nat.le_refl _⟩, ⟨by (with_reducible repeat (first | refine blk_drewN ?_ _ | refine blk_drew ?_ | refine blk_alloc ?_ _)); refine blk_put (cs := #[.bool ((rd_T57 l1 x9_1).f0), .int .i64 ((rd_T57 l1 x9_1).f1), .int .i64 ((rd_T57 l1 x9_1).f2), .int .i64 0]) ?_ 3 _ rfl; (with_reducible repeat (first | refine blk_drewN ?_ _ | refine blk_drew ?_ | refine blk_alloc ?_ _)); refine blk_put (cs := #[.bool ((rd_T57 l1 x9_1).f0), .int .i64 ((rd_T57 l1 x9_1).f1), .int .i64 0, .int .i64 0]) ?_ 2 _ rfl; (with_reducible repeat (first | refine blk_drewN ?_ _ | refine blk_drew ?_ | refine blk_alloc ?_ _)); refine blk_put (cs := #[.bool ((rd_T57 l1 x9_1).f0), .int .i64 0, .int .i64 0, .int .i64 0]) ?_ 1 _ rfl; (with_reducible repeat (first | refine blk_drewN ?_ _ | refine blk_drew ?_ | refine blk_alloc ?_ _)); refine blk_put (cs := #[.bool false, .int .i64 0, .int .i64 0, .int .i64 0]) ?_ 0 _ rfl; (with_reducible repeat (first | refine blk_drewN ?_ _ | refine blk_drew ?_ | refine blk_alloc ?_ _)); exact BK140.out⟩, ⟨by repeat (first | (with_reducible first | exact HB.out | apply below_alloc | apply pw_below_drewN | apply below_drew1 | refine below_set ?_ GE140.out) | exact HB.out)⟩⟩
            case rest =>
              clear HC6
              try clear c1
              try clear p1
              try clear q1
              try clear hx1
              try clear p2
              try clear c3
              try clear c3b0
              try clear c4
              try clear c4b0
              try clear c5
              try clear c5b0
              try clear c9
              try clear c9b0
              try clear hcz10_0
              try clear hcz10_1
              try clear hcz10_2
              try clear hcz10_3
              try clear hcz11_0
              try clear hcz11_1
              try clear hcz11_2
              try clear hcz11_3
              try clear hcz8_0
              try clear hcz8_1
              try clear hcz8_2
              try clear hcz8_3
              try clear hfz10_0
              try clear hfz10_1
              try clear hfz10_2
              try clear hfz10_3
              try clear hfz11_0
              try clear hfz11_1
              try clear hfz11_2
              try clear hfz11_3
              try clear hfz8_0
              try clear hfz8_1
              try clear hfz8_2
              try clear hfz8_3
              try clear hx139_0
              try clear hx139_1
              try clear hx139_2
              try clear hx139_3
              try clear p139
              try clear p2
              try clear q139
              obtain ⟨kq, x20_5, rfl, HA, HJ5, BK140, HB⟩ := hcut
              cases kq with
              | zero => exact absurd HA.out (by simp [spec_Good.j1])
              | succ kj5 =>
                have H := HA.out
                clear HA
                simp only [spec_Good.j1] at H
                by_cases c12 : x20_5 = true
                · subst c12
                  have H1 : (some false) = some r := by rw [if_pos rfl] at H; exact H
                  clear H
                  have H := H1
                  clear H1
                  obtain rfl := Option.some.inj H
                  go_wp2
                  repeat (go_quiet (fail); try go_wp2)
                  go_ret
                  exact ⟨by first | rfl | (simp [errW_none, errW_some] <;> rfl) | (simp [*, errW_none, errW_some] <;> rfl), by repeat (first | (with_reducible first | exact HB.out | apply below_alloc | apply pw_below_drewN | apply below_drew1 | refine below_set ?_ GE140.out) | exact HB.out)⟩
                · replace c12 := Bool.eq_false_iff.mpr c12
                  subst c12
                  have H1 : (if ((rd_T57 l1 x9_1).f0) = true then (spec_Good.l0 kj5 a0 l1 l1 (l1.length : Int) (wrap64 (x9_1 + 1))) else ((spec_Low.f a0).bind fun t141 => (if ((rd_T57 l1 x9_1).f1) < t141 then (some false) else ((spec_High.f a0).bind fun t142 => (if ((rd_T57 l1 x9_1).f2) > t142 then (some false) else (if ((rd_T57 l1 x9_1).f1) > ((rd_T57 l1 x9_1).f2) then (some false) else (spec_Good.l0 kj5 a0 l1 l1 (l1.length : Int) (wrap64 (x9_1 + 1))))))))) = some r := by rw [if_neg (show ¬ (false = true) by decide)] at H; exact H
                  clear H
                  have H := H1
                  clear H1
                  by_cases c13 : ((rd_T57 l1 x9_1).f0) = true
                  · rw [if_pos c13] at H
                    have c13b0 : ((rd_T57 l1 x9_1).f0) = true := c13
                    clear c13
                    have H' := Aside0.mk H
                    clear H
                    have hcz14_0 : wc.cell? ⟨gb140, 0, none⟩ = some (.bool ((rd_T57 l1 x9_1).f0)) := (blk_cell BK140.out 0).trans rfl
                    have hcz14_1 : wc.cell? ⟨gb140, 1, none⟩ = some (.int .i64 ((rd_T57 l1 x9_1).f1)) := (blk_cell BK140.out 1).trans rfl
                    have hcz14_2 : wc.cell? ⟨gb140, 2, none⟩ = some (.int .i64 ((rd_T57 l1 x9_1).f2)) := (blk_cell BK140.out 2).trans rfl
                    have hcz14_3 : wc.cell? ⟨gb140, 3, none⟩ = some (.int .i64 ((rd_T57 l1 x9_1).f3)) := (blk_cell BK140.out 3).trans rfl
                    have hfz14_0 := blk_frozen BK140.out 0
                    have hfz14_1 := blk_frozen BK140.out 1
                    have hfz14_2 := blk_frozen BK140.out 2
                    have hfz14_3 := blk_frozen BK140.out 3
                    go_wp2
                    repeat (go_quiet (fail); try go_wp2)
                    go_roundg kj5
                    case measure => have := HK1.out; have := HJ5.out; omega
                    case rel => exact ⟨(wrap64 (x9_1 + 1)), (by first | rfl | (simp; done) | (simp [*]; done)), H', ⟨by have := HK1.out; have := HJ5.out; omega⟩, ⟨by repeat (first | (with_reducible first | exact HB.out | apply below_alloc | apply pw_below_drewN | apply below_drew1 | refine below_set ?_ GE140.out) | exact HB.out)⟩⟩
                  · rw [if_neg c13] at H
                    have c13b0 : ((rd_T57 l1 x9_1).f0) = false := by simpa using c13
                    clear c13
                    replace H := Option.bind_eq_some_iff.mp H
                    obtain ⟨t141, A150, H⟩ := H
                    replace H : (if ((rd_T57 l1 x9_1).f1) < t141 then (some false) else ((spec_High.f a0).bind fun t142 => (if ((rd_T57 l1 x9_1).f2) > t142 then (some false) else (if ((rd_T57 l1 x9_1).f1) > ((rd_T57 l1 x9_1).f2) then (some false) else (spec_Good.l0 kj5 a0 l1 l1 (l1.length : Int) (wrap64 (x9_1 + 1))))))) = some r := H
                    have A15 := Aside0.mk A150
                    clear A150
                    by_cases c16 : ((rd_T57 l1 x9_1).f1) < t141
                    · rw [if_pos c16] at H
                      have c16b0 : decide (((rd_T57 l1 x9_1).f1) < t141) = true := decide_eq_true c16
                      clear c16
                      obtain rfl := Option.some.inj H
                      have hcz17_0 : wc.cell? ⟨gb140, 0, none⟩ = some (.bool ((rd_T57 l1 x9_1).f0)) := (blk_cell BK140.out 0).trans rfl
                      have hcz17_1 : wc.cell? ⟨gb140, 1, none⟩ = some (.int .i64 ((rd_T57 l1 x9_1).f1)) := (blk_cell BK140.out 1).trans rfl
                      have hcz17_2 : wc.cell? ⟨gb140, 2, none⟩ = some (.int .i64 ((rd_T57 l1 x9_1).f2)) := (blk_cell BK140.out 2).trans rfl
                      have hcz17_3 : wc.cell? ⟨gb140, 3, none⟩ = some (.int .i64 ((rd_T57 l1 x9_1).f3)) := (blk_cell BK140.out 3).trans rfl
                      have hfz17_0 := blk_frozen BK140.out 0
                      have hfz17_1 := blk_frozen BK140.out 1
                      have hfz17_2 := blk_frozen BK140.out 2
                      have hfz17_3 := blk_frozen BK140.out 3
                      go_wp2_with (first | (go_at_call 17; (with_reducible refine (spec_Low.calls a0 t141 _ A15.out).mono ?_); rintro e w' ⟨rfl, ⟨nd, rfl⟩⟩; (try first | exact ⟨rfl, _, World.drewN_drewN _ _ _⟩ | exact ⟨rfl, _, Eq.trans (World.drewN_drewN _ _ _) (congrArg (World.drewN _) (Nat.add_assoc _ _ _))⟩)))
                      repeat (go_quiet (first | (go_at_call 17; (with_reducible refine (spec_Low.calls a0 t141 _ A15.out).mono ?_); rintro e w' ⟨rfl, ⟨nd, rfl⟩⟩; (try first | exact ⟨rfl, _, World.drewN_drewN _ _ _⟩ | exact ⟨rfl, _, Eq.trans (World.drewN_drewN _ _ _) (congrArg (World.drewN _) (Nat.add_assoc _ _ _))⟩))); try go_wp2_with (first | (go_at_call 17; (with_reducible refine (spec_Low.calls a0 t141 _ A15.out).mono ?_); rintro e w' ⟨rfl, ⟨nd, rfl⟩⟩; (try first | exact ⟨rfl, _, World.drewN_drewN _ _ _⟩ | exact ⟨rfl, _, Eq.trans (World.drewN_drewN _ _ _) (congrArg (World.drewN _) (Nat.add_assoc _ _ _))⟩))))
                      go_ret
                      exact ⟨by first | rfl | (simp [errW_none, errW_some] <;> rfl) | (simp [*, errW_none, errW_some] <;> rfl), by repeat (first | (with_reducible first | exact HB.out | apply below_alloc | apply pw_below_drewN | apply below_drew1 | refine below_set ?_ GE140.out) | exact HB.out)⟩
                    · rw [if_neg c16] at H
                      have c16b0 : decide (((rd_T57 l1 x9_1).f1) < t141) = false := decide_eq_false c16
                      clear c16
                      replace H := Option.bind_eq_some_iff.mp H
                      obtain ⟨t142, A180, H⟩ := H
                      replace H : (if ((rd_T57 l1 x9_1).f2) > t142 then (some false) else (if ((rd_T57 l1 x9_1).f1) > ((rd_T57 l1 x9_1).f2) then (some false) else (spec_Good.l0 kj5 a0 l1 l1 (l1.length : Int) (wrap64 (x9_1 + 1))))) = some r := H
                      have A18 := Aside0.mk A180
                      clear A180
                      by_cases c19 : ((rd_T57 l1 x9_1).f2) > t142
                      · rw [if_pos c19] at H
                        have c19b0 : decide (t142 < ((rd_T57 l1 x9_1).f2)) = true := decide_eq_true c19
                        clear c19
                        obtain rfl := Option.some.inj H
                        have hcz20_0 : wc.cell? ⟨gb140, 0, none⟩ = some (.bool ((rd_T57 l1 x9_1).f0)) := (blk_cell BK140.out 0).trans rfl
                        have hcz20_1 : wc.cell? ⟨gb140, 1, none⟩ = some (.int .i64 ((rd_T57 l1 x9_1).f1)) := (blk_cell BK140.out 1).trans rfl
                        have hcz20_2 : wc.cell? ⟨gb140, 2, none⟩ = some (.int .i64 ((rd_T57 l1 x9_1).f2)) := (blk_cell BK140.out 2).trans rfl
                        have hcz20_3 : wc.cell? ⟨gb140, 3, none⟩ = some (.int .i64 ((rd_T57 l1 x9_1).f3)) := (blk_cell BK140.out 3).trans rfl
                        have hfz20_0 := blk_frozen BK140.out 0
                        have hfz20_1 := blk_frozen BK140.out 1
                        have hfz20_2 := blk_frozen BK140.out 2
                        have hfz20_3 := blk_frozen BK140.out 3
                        go_wp2_with (first | (go_at_call 17; (with_reducible refine (spec_Low.calls a0 t141 _ A15.out).mono ?_); rintro e w' ⟨rfl, ⟨nd, rfl⟩⟩; (try first | exact ⟨rfl, _, World.drewN_drewN _ _ _⟩ | exact ⟨rfl, _, Eq.trans (World.drewN_drewN _ _ _) (congrArg (World.drewN _) (Nat.add_assoc _ _ _))⟩)) | (go_at_call 18; (with_reducible refine (spec_High.calls a0 t142 _ A18.out).mono ?_); rintro e w' ⟨rfl, ⟨nd, rfl⟩⟩; (try first | exact ⟨rfl, _, World.drewN_drewN _ _ _⟩ | exact ⟨rfl, _, Eq.trans (World.drewN_drewN _ _ _) (congrArg (World.drewN _) (Nat.add_assoc _ _ _))⟩)))
                        repeat (go_quiet (first | (go_at_call 17; (with_reducible refine (spec_Low.calls a0 t141 _ A15.out).mono ?_); rintro e w' ⟨rfl, ⟨nd, rfl⟩⟩; (try first | exact ⟨rfl, _, World.drewN_drewN _ _ _⟩ | exact ⟨rfl, _, Eq.trans (World.drewN_drewN _ _ _) (congrArg (World.drewN _) (Nat.add_assoc _ _ _))⟩)) | (go_at_call 18; (with_reducible refine (spec_High.calls a0 t142 _ A18.out).mono ?_); rintro e w' ⟨rfl, ⟨nd, rfl⟩⟩; (try first | exact ⟨rfl, _, World.drewN_drewN _ _ _⟩ | exact ⟨rfl, _, Eq.trans (World.drewN_drewN _ _ _) (congrArg (World.drewN _) (Nat.add_assoc _ _ _))⟩))); try go_wp2_with (first | (go_at_call 17; (with_reducible refine (spec_Low.calls a0 t141 _ A15.out).mono ?_); rintro e w' ⟨rfl, ⟨nd, rfl⟩⟩; (try first | exact ⟨rfl, _, World.drewN_drewN _ _ _⟩ | exact ⟨rfl, _, Eq.trans (World.drewN_drewN _ _ _) (congrArg (World.drewN _) (Nat.add_assoc _ _ _))⟩)) | (go_at_call 18; (with_reducible refine (spec_High.calls a0 t142 _ A18.out).mono ?_); rintro e w' ⟨rfl, ⟨nd, rfl⟩⟩; (try first | exact ⟨rfl, _, World.drewN_drewN _ _ _⟩ | exact ⟨rfl, _, Eq.trans (World.drewN_drewN _ _ _) (congrArg (World.drewN _) (Nat.add_assoc _ _ _))⟩))))
                        go_ret
                        exact ⟨by first | rfl | (simp [errW_none, errW_some] <;> rfl) | (simp [*, errW_none, errW_some] <;> rfl), by repeat (first | (with_reducible first | exact HB.out | apply below_alloc | apply pw_below_drewN | apply below_drew1 | refine below_set ?_ GE140.out) | exact HB.out)⟩
                      · rw [if_neg c19] at H
                        have c19b0 : decide (t142 < ((rd_T57 l1 x9_1).f2)) = false := decide_eq_false c19
                        clear c19
                        by_cases c21 : ((rd_T57 l1 x9_1).f1) > ((rd_T57 l1 x9_1).f2)
                        · rw [if_pos c21] at H
                          have c21b0 : decide (((rd_T57 l1 x9_1).f2) < ((rd_T57 l1 x9_1).f1)) = true := decide_eq_true c21
                          clear c21
                          obtain rfl := Option.some.inj H
                          have hcz22_0 : wc.cell? ⟨gb140, 0, none⟩ = some (.bool ((rd_T57 l1 x9_1).f0)) := (blk_cell BK140.out 0).trans rfl
                          have hcz22_1 : wc.cell? ⟨gb140, 1, none⟩ = some (.int .i64 ((rd_T57 l1 x9_1).f1)) := (blk_cell BK140.out 1).trans rfl
                          have hcz22_2 : wc.cell? ⟨gb140, 2, none⟩ = some (.int .i64 ((rd_T57 l1 x9_1).f2)) := (blk_cell BK140.out 2).trans rfl
                          have hcz22_3 : wc.cell? ⟨gb140, 3, none⟩ = some (.int .i64 ((rd_T57 l1 x9_1).f3)) := (blk_cell BK140.out 3).trans rfl
                          have hfz22_0 := blk_frozen BK140.out 0
                          have hfz22_1 := blk_frozen BK140.out 1
                          have hfz22_2 := blk_frozen BK140.out 2
                          have hfz22_3 := blk_frozen BK140.out 3
                          go_wp2_with (first | (go_at_call 17; (with_reducible refine (spec_Low.calls a0 t141 _ A15.out).mono ?_); rintro e w' ⟨rfl, ⟨nd, rfl⟩⟩; (try first | exact ⟨rfl, _, World.drewN_drewN _ _ _⟩ | exact ⟨rfl, _, Eq.trans (World.drewN_drewN _ _ _) (congrArg (World.drewN _) (Nat.add_assoc _ _ _))⟩)) | (go_at_call 18; (with_reducible refine (spec_High.calls a0 t142 _ A18.out).mono ?_); rintro e w' ⟨rfl, ⟨nd, rfl⟩⟩; (try first | exact ⟨rfl, _, World.drewN_drewN _ _ _⟩ | exact ⟨rfl, _, Eq.trans (World.drewN_drewN _ _ _) (congrArg (World.drewN _) (Nat.add_assoc _ _ _))⟩)))
                          repeat (go_quiet (first | (go_at_call 17; (with_reducible refine (spec_Low.calls a0 t141 _ A15.out).mono ?_); rintro e w' ⟨rfl, ⟨nd, rfl⟩⟩; (try first | exact ⟨rfl, _, World.drewN_drewN _ _ _⟩ | exact ⟨rfl, _, Eq.trans (World.drewN_drewN _ _ _) (congrArg (World.drewN _) (Nat.add_assoc _ _ _))⟩)) | (go_at_call 18; (with_reducible refine (spec_High.calls a0 t142 _ A18.out).mono ?_); rintro e w' ⟨rfl, ⟨nd, rfl⟩⟩; (try first | exact ⟨rfl, _, World.drewN_drewN _ _ _⟩ | exact ⟨rfl, _, Eq.trans (World.drewN_drewN _ _ _) (congrArg (World.drewN _) (Nat.add_assoc _ _ _))⟩))); try go_wp2_with (first | (go_at_call 17; (with_reducible refine (spec_Low.calls a0 t141 _ A15.out).mono ?_); rintro e w' ⟨rfl, ⟨nd, rfl⟩⟩; (try first | exact ⟨rfl, _, World.drewN_drewN _ _ _⟩ | exact ⟨rfl, _, Eq.trans (World.drewN_drewN _ _ _) (congrArg (World.drewN _) (Nat.add_assoc _ _ _))⟩)) | (go_at_call 18; (with_reducible refine (spec_High.calls a0 t142 _ A18.out).mono ?_); rintro e w' ⟨rfl, ⟨nd, rfl⟩⟩; (try first | exact ⟨rfl, _, World.drewN_drewN _ _ _⟩ | exact ⟨rfl, _, Eq.trans (World.drewN_drewN _ _ _) (congrArg (World.drewN _) (Nat.add_assoc _ _ _))⟩))))
                          go_ret
                          exact ⟨by first | rfl | (simp [errW_none, errW_some] <;> rfl) | (simp [*, errW_none, errW_some] <;> rfl), by repeat (first | (with_reducible first | exact HB.out | apply below_alloc | apply pw_below_drewN | apply below_drew1 | refine below_set ?_ GE140.out) | exact HB.out)⟩
                        · rw [if_neg c21] at H
                          have c21b0 : decide (((rd_T57 l1 x9_1).f2) < ((rd_T57 l1 x9_1).f1)) = false := decide_eq_false c21
                          clear c21
                          have H' := Aside0.mk H
                          clear H
                          have hcz23_0 : wc.cell? ⟨gb140, 0, none⟩ = some (.bool ((rd_T57 l1 x9_1).f0)) := (blk_cell BK140.out 0).trans rfl
                          have hcz23_1 : wc.cell? ⟨gb140, 1, none⟩ = some (.int .i64 ((rd_T57 l1 x9_1).f1)) := (blk_cell BK140.out 1).trans rfl
                          have hcz23_2 : wc.cell? ⟨gb140, 2, none⟩ = some (.int .i64 ((rd_T57 l1 x9_1).f2)) := (blk_cell BK140.out 2).trans rfl
                          have hcz23_3 : wc.cell? ⟨gb140, 3, none⟩ = some (.int .i64 ((rd_T57 l1 x9_1).f3)) := (blk_cell BK140.out 3).trans rfl
                          have hfz23_0 := blk_frozen BK140.out 0
                          have hfz23_1 := blk_frozen BK140.out 1
                          have hfz23_2 := blk_frozen BK140.out 2
                          have hfz23_3 := blk_frozen BK140.out 3
                          go_wp2_with (first | (go_at_call 17; (with_reducible refine (spec_Low.calls a0 t141 _ A15.out).mono ?_); rintro e w' ⟨rfl, ⟨nd, rfl⟩⟩; (try first | exact ⟨rfl, _, World.drewN_drewN _ _ _⟩ | exact ⟨rfl, _, Eq.trans (World.drewN_drewN _ _ _) (congrArg (World.drewN _) (Nat.add_assoc _ _ _))⟩)) | (go_at_call 18; (with_reducible refine (spec_High.calls a0 t142 _ A18.out).mono ?_); rintro e w' ⟨rfl, ⟨nd, rfl⟩⟩; (try first | exact ⟨rfl, _, World.drewN_drewN _ _ _⟩ | exact ⟨rfl, _, Eq.trans (World.drewN_drewN _ _ _) (congrArg (World.drewN _) (Nat.add_assoc _ _ _))⟩)))
                          repeat (go_quiet (first | (go_at_call 17; (with_reducible refine (spec_Low.calls a0 t141 _ A15.out).mono ?_); rintro e w' ⟨rfl, ⟨nd, rfl⟩⟩; (try first | exact ⟨rfl, _, World.drewN_drewN _ _ _⟩ | exact ⟨rfl, _, Eq.trans (World.drewN_drewN _ _ _) (congrArg (World.drewN _) (Nat.add_assoc _ _ _))⟩)) | (go_at_call 18; (with_reducible refine (spec_High.calls a0 t142 _ A18.out).mono ?_); rintro e w' ⟨rfl, ⟨nd, rfl⟩⟩; (try first | exact ⟨rfl, _, World.drewN_drewN _ _ _⟩ | exact ⟨rfl, _, Eq.trans (World.drewN_drewN _ _ _) (congrArg (World.drewN _) (Nat.add_assoc _ _ _))⟩))); try go_wp2_with (first | (go_at_call 17; (with_reducible refine (spec_Low.calls a0 t141 _ A15.out).mono ?_); rintro e w' ⟨rfl, ⟨nd, rfl⟩⟩; (try first | exact ⟨rfl, _, World.drewN_drewN _ _ _⟩ | exact ⟨rfl, _, Eq.trans (World.drewN_drewN _ _ _) (congrArg (World.drewN _) (Nat.add_assoc _ _ _))⟩)) | (go_at_call 18; (with_reducible refine (spec_High.calls a0 t142 _ A18.out).mono ?_); rintro e w' ⟨rfl, ⟨nd, rfl⟩⟩; (try first | exact ⟨rfl, _, World.drewN_drewN _ _ _⟩ | exact ⟨rfl, _, Eq.trans (World.drewN_drewN _ _ _) (congrArg (World.drewN _) (Nat.add_assoc _ _ _))⟩))))
                          go_roundg kj5
                          case measure => have := HK1.out; have := HJ5.out; omega
                          case rel => exact ⟨(wrap64 (x9_1 + 1)), (by first | rfl | (simp; done) | (simp [*]; done)), H', ⟨by have := HK1.out; have := HJ5.out; omega⟩, ⟨by repeat (first | (with_reducible first | exact HB.out | apply below_alloc | apply pw_below_drewN | apply below_drew1 | refine below_set ?_ GE140.out) | exact HB.out)⟩⟩
          · rw [if_neg c5] at H
            exact absurd H (by simp)
        · rw [if_neg c4] at H
          exact absurd H (by simp)
      · rw [if_neg c3] at H
        have c3b0 : decide (x9_1 < (l1.length : Int)) = false := decide_eq_false c3
        clear c3
        by_cases c24 : (l1.length : Int) ≥ 1
        · rw [if_pos c24] at H
          have c24b0 : decide (1 ≤ (l1.length : Int)) = true := decide_eq_true c24
          have c24b1 : decide (1 ≤ l1.length) = true := decide_eq_true (by omega)
          clear c24
          obtain rfl := Option.some.inj H
          go_wp2
          repeat (go_quiet (fail); try go_wp2)
          go_ret
          exact ⟨by first | rfl | (simp [errW_none, errW_some] <;> rfl) | (simp [*, errW_none, errW_some] <;> rfl), by repeat (first | (with_reducible first | exact HB.out | apply below_alloc | apply pw_below_drewN | apply below_drew1) | exact HB.out)⟩
        · rw [if_neg c24] at H
          have c24b0 : decide (1 ≤ (l1.length : Int)) = false := decide_eq_false c24
          have c24b1 : decide (1 ≤ l1.length) = false := decide_eq_false (by omega)
          clear c24
          obtain rfl := Option.some.inj H
          go_wp2
          repeat (go_quiet (fail); try go_wp2)
          go_ret
          exact ⟨by first | rfl | (simp [errW_none, errW_some] <;> rfl) | (simp [*, errW_none, errW_some] <;> rfl), by repeat (first | (with_reducible first | exact HB.out | apply below_alloc | apply pw_below_drewN | apply below_drew1) | exact HB.out)⟩
end Go.Proofs.YtkhgeonlohafgaaGreatDoor.Core
namespace Go.Proofs.YtkhgeonlohafgaaGreatDoor.Core
open Go.RowKit Go.Proofs.YtkhgeonlohafgaaGreatDoorW.PrintWords Go.Proofs.YtkhgeonlohafgaaGreatDoorW.PrintLast Go.Proofs.YtkhgeonlohafgaaGreatDoorW.PrintMore
attribute [local go_sem] max2_int min2_int max_two min_two max_three min_three max_four min_four   -- for this text's walks alone
set_option linter.unusedVariables false
set_option linter.unusedSimpArgs false
def spec_Star.f (l0 : List (S57)) : Option (Bool) := if (l0.length : Int) = 1 then (if 0 < (l0.length : Int) then (if (rd_T57 l0 0).f0 = true then (some (((rd_T57 l0 0).f3) == 1)) else (some false)) else (none)) else (some false)
set_option maxHeartbeats 8000000 in
set_option maxRecDepth 100000 in
theorem spec_Star.calls (A0 : Option Addr) (c0 : Nat) (l0 : List (S57)) (r : Bool) (w : World) (hr0 : Kd.C k57 w A0 l0.length l0) (hc0 : l0.length ≤ c0) (h : spec_Star.f l0 = some r) :
    Calls Tryz.prog 48 #[.slice A0 l0.length c0] w fun e w' => e = .returned (.bool r) ∧ Drawn0 w w' := by
  have HR0 := Aside0.mk hr0
  have HC0 := Aside0.mk hc0
  clear hr0 hc0
  have H : (if (l0.length : Int) = 1 then (if 0 < (l0.length : Int) then (if (rd_T57 l0 0).f0 = true then (some (((rd_T57 l0 0).f3) == 1)) else (some false)) else (none)) else (some false)) = some r := h
  clear h
  by_cases c2 : (l0.length : Int) = 1
  · rw [if_pos c2] at H
    have c2b0 : ((l0.length : Int) == 1) = true := beq_iff_eq.mpr c2
    have c2b1 : ((l0.length : Int) != 1) = false := bne_eq_false_iff_eq.mpr c2
    clear c2
    by_cases c3 : 0 < (l0.length : Int)
    · rw [if_pos c3] at H
      have c3b0 : decide (0 < (l0.length : Int)) = true := decide_eq_true c3
      have c3b1 : decide (0 < l0.length) = true := decide_eq_true (by omega)
      clear c3
      obtain ⟨bq4, hbq4⟩ : ∃ b_ : Bool, b_ = ((rd_T57 l0 0).f0) := ⟨_, rfl⟩
      replace H : (if bq4 = true then (some (((rd_T57 l0 0).f3) == 1)) else (some false)) = some r := by rw [← hbq4] at H; exact H
      have Nbq4 := Aside0.mk hbq4
      clear hbq4
      by_cases c5 : bq4 = true
      · subst c5
        have H1 : (some (((rd_T57 l0 0).f3) == 1)) = some r := by rw [if_pos rfl] at H; exact H
        clear H
        have H := H1
        clear H1
        obtain rfl := Option.some.inj H
        have p143 : 0 ≤ (0 : Int) := (by omega)
        have q143 : 0 < (l0.length : Int) := of_decide_eq_true (by first | (with_reducible assumption) | assumption)
        obtain ⟨ad143, e143, hx143_0, hx143_1, hx143_2, hx143_3⟩ := at_T57 HR0.out 0 p143 q143
        (try rw [← Nbq4.out] at hx143_0)
        cases e143
        have qi143 : (0 < l0.length) = True := eq_true (by omega)
        (try rw [show ((0 : Int)).toNat = 0 from rfl] at hx143_0)
        (try rw [show 0 * 4 = 0 from rfl] at hx143_0)
        (try rw [Addr.add_zero'] at hx143_0)
        (try rw [show ((0 : Int)).toNat = 0 from rfl] at hx143_1)
        (try rw [show 0 * 4 = 0 from rfl] at hx143_1)
        (try rw [Addr.add_zero'] at hx143_1)
        (try rw [show ((0 : Int)).toNat = 0 from rfl] at hx143_2)
        (try rw [show 0 * 4 = 0 from rfl] at hx143_2)
        (try rw [Addr.add_zero'] at hx143_2)
        (try rw [show ((0 : Int)).toNat = 0 from rfl] at hx143_3)
        (try rw [show 0 * 4 = 0 from rfl] at hx143_3)
        (try rw [Addr.add_zero'] at hx143_3)
        replace p143 := eq_true p143
        replace q143 := eq_true q143
        have p144 : 0 ≤ (0 : Int) := (by omega)
        have q144 : 0 < (l0.length : Int) := of_decide_eq_true (by first | (with_reducible assumption) | assumption)
        obtain ⟨ad144, e144, hx144_0, hx144_1, hx144_2, hx144_3⟩ := at_T57 HR0.out 0 p144 q144
        (try rw [← Nbq4.out] at hx144_0)
        obtain rfl : ad143 = ad144 := (by injection e144)
        have qi144 : (0 < l0.length) = True := eq_true (by omega)
        (try rw [show ((0 : Int)).toNat = 0 from rfl] at hx144_0)
        (try rw [show 0 * 4 = 0 from rfl] at hx144_0)
        (try rw [Addr.add_zero'] at hx144_0)
        (try rw [show ((0 : Int)).toNat = 0 from rfl] at hx144_1)
        (try rw [show 0 * 4 = 0 from rfl] at hx144_1)
        (try rw [Addr.add_zero'] at hx144_1)
        (try rw [show ((0 : Int)).toNat = 0 from rfl] at hx144_2)
        (try rw [show 0 * 4 = 0 from rfl] at hx144_2)
        (try rw [Addr.add_zero'] at hx144_2)
        (try rw [show ((0 : Int)).toNat = 0 from rfl] at hx144_3)
        (try rw [show 0 * 4 = 0 from rfl] at hx144_3)
        (try rw [Addr.add_zero'] at hx144_3)
        replace p144 := eq_true p144
        replace q144 := eq_true q144
        go_enter Tryz.func48, Tryz.ntmps48
        go_wp2
        go_ret
        exact ⟨by first | rfl | (simp; done) | (simp [*]; done), by repeat (first | exact Drawn0.refl _ | apply Drawn0.step)⟩
      · replace c5 := Bool.eq_false_iff.mpr c5
        subst c5
        have H1 : (some false) = some r := by rw [if_neg (show ¬ (false = true) by decide)] at H; exact H
        clear H
        have H := H1
        clear H1
        obtain rfl := Option.some.inj H
        have p143 : 0 ≤ (0 : Int) := (by omega)
        have q143 : 0 < (l0.length : Int) := of_decide_eq_true (by first | (with_reducible assumption) | assumption)
        obtain ⟨ad143, e143, hx143_0, hx143_1, hx143_2, hx143_3⟩ := at_T57 HR0.out 0 p143 q143
        (try rw [← Nbq4.out] at hx143_0)
        cases e143
        have qi143 : (0 < l0.length) = True := eq_true (by omega)
        (try rw [show ((0 : Int)).toNat = 0 from rfl] at hx143_0)
        (try rw [show 0 * 4 = 0 from rfl] at hx143_0)
        (try rw [Addr.add_zero'] at hx143_0)
        (try rw [show ((0 : Int)).toNat = 0 from rfl] at hx143_1)
        (try rw [show 0 * 4 = 0 from rfl] at hx143_1)
        (try rw [Addr.add_zero'] at hx143_1)
        (try rw [show ((0 : Int)).toNat = 0 from rfl] at hx143_2)
        (try rw [show 0 * 4 = 0 from rfl] at hx143_2)
        (try rw [Addr.add_zero'] at hx143_2)
        (try rw [show ((0 : Int)).toNat = 0 from rfl] at hx143_3)
        (try rw [show 0 * 4 = 0 from rfl] at hx143_3)
        (try rw [Addr.add_zero'] at hx143_3)
        replace p143 := eq_true p143
        replace q143 := eq_true q143
        go_enter Tryz.func48, Tryz.ntmps48
        go_wp2
        go_ret
        exact ⟨by first | rfl | (simp; done) | (simp [*]; done), by repeat (first | exact Drawn0.refl _ | apply Drawn0.step)⟩
    · rw [if_neg c3] at H
      exact absurd H (by simp)
  · rw [if_neg c2] at H
    have c2b0 : ((l0.length : Int) == 1) = false := beq_eq_false_iff_ne.mpr c2
    have c2b1 : ((l0.length : Int) != 1) = true := bne_iff_ne.mpr c2
    obtain rfl := Option.some.inj H
    go_enter Tryz.func48, Tryz.ntmps48
    go_wp2
    go_ret
    exact ⟨by first | rfl | (simp; done) | (simp [*]; done), by repeat (first | exact Drawn0.refl _ | apply Drawn0.step)⟩
end Go.Proofs.YtkhgeonlohafgaaGreatDoor.Core
namespace Go.Proofs.YtkhgeonlohafgaaGreatDoor.Core
open Go.RowKit Go.Proofs.YtkhgeonlohafgaaGreatDoorW.PrintWords Go.Proofs.YtkhgeonlohafgaaGreatDoorW.PrintLast Go.Proofs.YtkhgeonlohafgaaGreatDoorW.PrintMore
attribute [local go_sem] max2_int min2_int max_two min_two max_three min_three max_four min_four   -- for this text's walks alone
set_option linter.unusedVariables false
set_option linter.unusedSimpArgs false
attribute [local go_sem high] eqA57
mutual
def spec_ExprGood.l0 : Nat → List (List (S57)) → Int → Int → List (List (S57)) → Bool → Option (Bool)
  | 0, _, _, _, _, _ => none
  | k + 1, x12, x13, x14, x146000, x146001 => if x14 < x13 then (if 0 ≤ x14 then (if x14 < (x12.length : Int) then ((spec_Good.f k x14 (rd_L8 x12 x14)).bind fun t147 => (if t147 = true then (spec_ExprGood.l0 k x12 x13 (wrap64 (x14 + 1)) x146000 x146001) else (some false))) else (none)) else (none)) else (if x146001 = true then (spec_ExprGood.j1 k false x146000 x146001) else (if 0 < (x146000.length : Int) then (if ((rd_L8 x146000 0).length : Int) = 1 then (if 0 < ((rd_L8 x146000 0).length : Int) then (spec_ExprGood.j1 k (((rd_T57 (rd_L8 x146000 0) 0).f0) || (!(((rd_T57 (rd_L8 x146000 0) 0).f1) == 0) || (!(((rd_T57 (rd_L8 x146000 0) 0).f2) == 0) || (!(((rd_T57 (rd_L8 x146000 0) 0).f3) == 1))))) x146000 x146001) else (none)) else (spec_ExprGood.j1 k true x146000 x146001)) else (none)))
def spec_ExprGood.j1 : Nat → Bool → List (List (S57)) → Bool → Option (Bool)
  | 0, _, _, _ => none
  | k + 1, x44, x146000, x146001 => if x44 = true then (some false) else (if 3 < (x146000.length : Int) then ((spec_Star.f (rd_L8 x146000 3)).bind fun t152 => (if t152 = true then (spec_ExprGood.j2 k false x146000 x146001) else (if 5 < (x146000.length : Int) then ((spec_Star.f (rd_L8 x146000 5)).bind fun t154 => (spec_ExprGood.j2 k (!t154) x146000 x146001)) else (none)))) else (none))
def spec_ExprGood.j2 : Nat → Bool → List (List (S57)) → Bool → Option (Bool)
  | 0, _, _, _ => none
  | k + 1, x58, x146000, x146001 => if x58 = true then (some false) else (if 4 < (x146000.length : Int) then ((spec_Star.f (rd_L8 x146000 4)).bind fun t156 => (if t156 = true then (some true) else (if 3 < (x146000.length : Int) then (spec_ExprGood.l1 k (rd_L8 x146000 3) ((rd_L8 x146000 3).length : Int) 0) else (none)))) else (none))
def spec_ExprGood.l1 : Nat → List (S57) → Int → Int → Option (Bool)
  | 0, _, _, _ => none
  | k + 1, x68, x69, x70 => if x70 < x69 then (if 0 ≤ x70 then (if x70 < (x68.length : Int) then (if ((rd_T57 x68 x70).f0 = true) then (spec_ExprGood.l1 k x68 x69 (wrap64 (x70 + 1))) else (if ((rd_T57 x68 x70).f1) > 28 then (some false) else (spec_ExprGood.l1 k x68 x69 (wrap64 (x70 + 1))))) else (none)) else (none)) else (some true)
end
def spec_ExprGood.f (k : Nat) (l0_0 : List (List (S57))) (a0_1 : Bool) : Option (Bool) := if (l0_0.length : Int) = 6 then (spec_ExprGood.l0 k l0_0 (l0_0.length : Int) 0 l0_0 a0_1) else (some false)
set_option maxHeartbeats 8000000 in
set_option maxRecDepth 100000 in
theorem spec_ExprGood.calls (k : Nat) (A0_0 : Option Addr) (c0_0 : Nat) (l0_0 : List (List (S57))) (a0_1 : Bool) (r : Bool) (w : World) (hr0_0 : Kd.C (Kd.slice 57 k57) w A0_0 l0_0.length l0_0) (hc0_0 : l0_0.length ≤ c0_0) (h : spec_ExprGood.f k l0_0 a0_1 = some r) :
    Calls Tryz.prog 34 #[.agg #[.slice A0_0 l0_0.length c0_0, .bool a0_1]] w fun e w' => e = .returned (.bool r) ∧ Below w.heap.size w w' := by
  have hu38 := Tryz.underlying38
  have hu57 := Tryz.underlying57
  have HR0_0 := Aside0.mk hr0_0
  have HC0_0 := Aside0.mk hc0_0
  clear hr0_0 hc0_0
  have HB := Aside0.mk (Below.refl w.heap.size w)
  have H : (if (l0_0.length : Int) = 6 then (spec_ExprGood.l0 k l0_0 (l0_0.length : Int) 0 l0_0 a0_1) else (some false)) = some r := h
  clear h
  by_cases c2 : (l0_0.length : Int) = 6
  · rw [if_pos c2] at H
    have c2b0 : ((l0_0.length : Int) == 6) = true := beq_iff_eq.mpr c2
    have c2b1 : ((l0_0.length : Int) != 6) = false := bne_eq_false_iff_eq.mpr c2
    clear c2
    have H' := Aside0.mk H
    clear H
    go_enter Tryz.func34, Tryz.ntmps34
    go_wp2_with (first | ((with_reducible refine gate_dst (N := 1) rfl ?_); (try (refine gate_guard (by rfl) ?_; dsimp only)); refine box_event ?hg (N := 1) ?hd (cs := #[.slice A0_0 l0_0.length c0_0, .bool a0_1]) (t := 38) ?hr ?_; (case hd => rfl); (case hg => rfl); (case hr => first | (go_simp; done) | (go_simp; rfl)); intro gb145 hg w3 hbox hb; have n0_ := Aside0.mk (below_step (by repeat (first | (with_reducible first | exact HB.out | apply below_alloc | apply pw_below_drewN | apply below_drew1) | exact HB.out)) hb); have n1_ := Aside0.mk (hbox); have n2_ := Aside0.mk ((by rw [hg]; exact (below_size (by repeat (first | (with_reducible first | exact HB.out | apply below_alloc | apply pw_below_drewN | apply below_drew1) | exact HB.out))) : w.heap.size ≤ gb145)); have n3_ := Aside0.mk ((by rw [hg]; exact (below_size (by repeat (first | (with_reducible first | exact HB.out | apply below_alloc | apply pw_below_drewN | apply below_drew1) | exact HB.out))) : w.heap.size ≤ gb145)); clear HB; have HB := n0_; have BK145 := n1_; have GW145 := n2_; have GE145 := n3_; clear n0_ n1_ n2_ n3_; clear hb hbox hg; have hcz4_0 : w3.cell? ⟨gb145, 0, none⟩ = some (.slice A0_0 l0_0.length c0_0) := (blk_cell BK145.out 0).trans rfl; have hcz4_1 : w3.cell? ⟨gb145, 1, none⟩ = some (.bool a0_1) := (blk_cell BK145.out 1).trans rfl; have hfz4_0 := blk_frozen BK145.out 0; have hfz4_1 := blk_frozen BK145.out 1))
    go_loopg [14] k (fun kq v14 w' => ∃ (x14_1 : Int), v14 = .int .i64 x14_1 ∧ Aside0 (spec_ExprGood.l0 kq l0_0 (l0_0.length : Int) x14_1 l0_0 a0_1 = some r) ∧ Aside0 (kq ≤ k) ∧ Aside0 (w'.heap[gb145]? = some (.cells #[(.slice A0_0 l0_0.length c0_0), .bool a0_1] 38 (0, 0))) ∧ Aside0 (Below w.heap.size w w'))
    case atStart => exact ⟨(0), (by first | rfl | (simp; done) | (simp [*]; done)), H', ⟨Nat.le_refl _⟩, ⟨by (with_reducible repeat (first | refine blk_drewN ?_ _ | refine blk_drew ?_ | refine blk_alloc ?_ _)); exact BK145.out⟩, ⟨by repeat (first | (with_reducible first | exact HB.out | apply below_alloc | apply pw_below_drewN | apply below_drew1 | refine below_set ?_ GE145.out) | exact HB.out)⟩⟩
    case round =>
      clear H'
      try clear c2
      try clear c2b0
      try clear c2b1
      try clear p2
      try clear c3
      try clear hcz4_0
      try clear hcz4_1
      try clear hfz4_0
      try clear hfz4_1
      obtain ⟨x14_1, rfl, HA, HK1, BK145, HB⟩ := hrel
      cases gk with
      | zero => exact absurd HA.out (by simp [spec_ExprGood.l0])
      | succ k1 =>
        have H := HA.out
        clear HA
        simp only [spec_ExprGood.l0] at H
        by_cases c5 : x14_1 < (l0_0.length : Int)
        · rw [if_pos c5] at H
          have c5b0 : decide (x14_1 < (l0_0.length : Int)) = true := decide_eq_true c5
          clear c5
          by_cases c6 : 0 ≤ x14_1
          · rw [if_pos c6] at H
            have c6b0 : decide (0 ≤ x14_1) = true := decide_eq_true c6
            clear c6
            by_cases c7 : x14_1 < (l0_0.length : Int)
            · rw [if_pos c7] at H
              have c7b0 : decide (x14_1 < (l0_0.length : Int)) = true := decide_eq_true c7
              clear c7
              replace H := Option.bind_eq_some_iff.mp H
              obtain ⟨t147, A80, H⟩ := H
              replace H : (if t147 = true then (spec_ExprGood.l0 k1 l0_0 (l0_0.length : Int) (wrap64 (x14_1 + 1)) l0_0 a0_1) else (some false)) = some r := H
              have A8 := Aside0.mk A80
              clear A80
              by_cases c9 : t147 = true
              · subst c9
                have H1 : (spec_ExprGood.l0 k1 l0_0 (l0_0.length : Int) (wrap64 (x14_1 + 1)) l0_0 a0_1) = some r := by rw [if_pos rfl] at H; exact H
                clear H
                have H := H1
                clear H1
                have H' := Aside0.mk H
                clear H
                have p146 : 0 ≤ (x14_1 : Int) := of_decide_eq_true (by first | (with_reducible assumption) | assumption)
                have q146 : x14_1 < (l0_0.length : Int) := of_decide_eq_true (by first | (with_reducible assumption) | assumption)
                obtain ⟨ad146, A146_0, c146_0, e146, hx146_0, hl146_0, hi146_0⟩ := at_L8 HR0_0.out x14_1 p146 q146
                cases e146
                replace hx146_0 := (HB.out.cell (World.block_lt_of_cell? w _ hx146_0)).trans hx146_0
                have HR146_0 := Aside0.mk hi146_0
                have HC146_0 := Aside0.mk hl146_0
                clear hi146_0 hl146_0
                replace p146 := eq_true p146
                replace q146 := eq_true q146
                go_wp2_with (first | ((with_reducible refine gate_callee (f := 47) rfl ?_); refine goesL_ (some 21) rfl rfl Tryz.func47 (by kernel_rfl) rfl #[.int .i64 x14_1, .slice A146_0 (rd_L8 l0_0 x14_1).length c146_0] rfl (by (try simp only [List.map_toArray, List.map_cons, List.map_nil]); first | done | rfl | (simp only [List.length_drop, List.length_take]; rfl)) ?_; (with_reducible refine (spec_Good.calls k1 x14_1 _ _ (rd_L8 l0_0 x14_1) true _ ?side1 ?side2 A8.out).mono ?_); (case side1 => repeat (first | exact (Kd.C_below HR146_0.out HB.out) | (with_reducible refine Kd.C_alloc ?_ _) | (with_reducible refine Kd.C_drewN ?_ _) | (with_reducible refine Kd.C_drew ?_))); (case side2 => exact HC146_0.out); rintro e w10 ⟨rfl, hb⟩; refine ⟨_, rfl, ?_⟩; have n0_ := Aside0.mk (blk_below (g := gb145) (o := .cells #[.slice (some ad146) l0_0.length c0_0, .bool a0_1] 38 (0, 0)) (by (with_reducible repeat (first | refine blk_drewN ?_ _ | refine blk_drew ?_ | refine blk_alloc ?_ _)); exact BK145.out) hb); have n1_ := Aside0.mk (below_step (by repeat (first | (with_reducible first | exact HB.out | apply below_alloc | apply pw_below_drewN | apply below_drew1 | refine below_set ?_ GE145.out) | exact HB.out)) hb); clear BK145; clear HB; have BK145 := n0_; have HB := n1_; clear n0_ n1_; (try clear hb); (try clear hb2); (try clear hk); (try clear hi)))
                go_roundg k1
                case measure => have := HK1.out; omega
                case rel => exact ⟨(wrap64 (x14_1 + 1)), (by first | rfl | (simp; done) | (simp [*]; done)), H', ⟨by have := HK1.out; omega⟩, ⟨by (with_reducible repeat (first | refine blk_drewN ?_ _ | refine blk_drew ?_ | refine blk_alloc ?_ _)); exact BK145.out⟩, ⟨by repeat (first | (with_reducible first | exact HB.out | apply below_alloc | apply pw_below_drewN | apply below_drew1 | refine below_set ?_ GE145.out) | exact HB.out)⟩⟩
              · replace c9 := Bool.eq_false_iff.mpr c9
                subst c9
                have H1 : (some false) = some r := by rw [if_neg (show ¬ (false = true) by decide)] at H; exact H
                clear H
                have H := H1
                clear H1
                obtain rfl := Option.some.inj H
                have p146 : 0 ≤ (x14_1 : Int) := of_decide_eq_true (by first | (with_reducible assumption) | assumption)
                have q146 : x14_1 < (l0_0.length : Int) := of_decide_eq_true (by first | (with_reducible assumption) | assumption)
                obtain ⟨ad146, A146_0, c146_0, e146, hx146_0, hl146_0, hi146_0⟩ := at_L8 HR0_0.out x14_1 p146 q146
                cases e146
                replace hx146_0 := (HB.out.cell (World.block_lt_of_cell? w _ hx146_0)).trans hx146_0
                have HR146_0 := Aside0.mk hi146_0
                have HC146_0 := Aside0.mk hl146_0
                clear hi146_0 hl146_0
                replace p146 := eq_true p146
                replace q146 := eq_true q146
                go_wp2_with (first | ((with_reducible refine gate_callee (f := 47) rfl ?_); refine goesL_ (some 21) rfl rfl Tryz.func47 (by kernel_rfl) rfl #[.int .i64 x14_1, .slice A146_0 (rd_L8 l0_0 x14_1).length c146_0] rfl (by (try simp only [List.map_toArray, List.map_cons, List.map_nil]); first | done | rfl | (simp only [List.length_drop, List.length_take]; rfl)) ?_; (with_reducible refine (spec_Good.calls k1 x14_1 _ _ (rd_L8 l0_0 x14_1) false _ ?side1 ?side2 A8.out).mono ?_); (case side1 => repeat (first | exact (Kd.C_below HR146_0.out HB.out) | (with_reducible refine Kd.C_alloc ?_ _) | (with_reducible refine Kd.C_drewN ?_ _) | (with_reducible refine Kd.C_drew ?_))); (case side2 => exact HC146_0.out); rintro e w11 ⟨rfl, hb⟩; refine ⟨_, rfl, ?_⟩; have n0_ := Aside0.mk (blk_below (g := gb145) (o := .cells #[.slice (some ad146) l0_0.length c0_0, .bool a0_1] 38 (0, 0)) (by (with_reducible repeat (first | refine blk_drewN ?_ _ | refine blk_drew ?_ | refine blk_alloc ?_ _)); exact BK145.out) hb); have n1_ := Aside0.mk (below_step (by repeat (first | (with_reducible first | exact HB.out | apply below_alloc | apply pw_below_drewN | apply below_drew1 | refine below_set ?_ GE145.out) | exact HB.out)) hb); clear BK145; clear HB; have BK145 := n0_; have HB := n1_; clear n0_ n1_; (try clear hb); (try clear hb2); (try clear hk); (try clear hi)))
                go_ret
                exact ⟨by first | rfl | (simp [errW_none, errW_some] <;> rfl) | (simp [*, errW_none, errW_some] <;> rfl), by repeat (first | (with_reducible first | exact HB.out | apply below_alloc | apply pw_below_drewN | apply below_drew1 | refine below_set ?_ GE145.out) | exact HB.out)⟩
            · rw [if_neg c7] at H
              exact absurd H (by simp)
          · rw [if_neg c6] at H
            exact absurd H (by simp)
        · rw [if_neg c5] at H
          have c5b0 : decide (x14_1 < (l0_0.length : Int)) = false := decide_eq_false c5
          clear c5
          have HC12 := Aside0.mk H
          clear H
          go_upto_region 9 with (fail)
          go_cut [44] (fun v44 wc => ∃ (kq : Nat) (x44_11 : Bool), v44 = .bool x44_11 ∧ Aside0 (spec_ExprGood.j1 kq x44_11 l0_0 a0_1 = some r) ∧ Aside0 (kq ≤ k1) ∧ Aside0 (wc.heap[gb145]? = some (.cells #[(.slice A0_0 l0_0.length c0_0), .bool a0_1] 38 (0, 0))) ∧ Aside0 (Below w.heap.size w wc))
          case first =>
            have H := HC12.out
            clear HC12
            by_cases c13 : a0_1 = true
            · subst c13
              have H1 : (spec_ExprGood.j1 k1 false l0_0 true) = some r := by rw [if_pos rfl] at H; exact H
              clear H
              have H := H1
              clear H1
              have H' := Aside0.mk H
              clear H
              have hcz14_0 : wr.cell? ⟨gb145, 0, none⟩ = some (.slice A0_0 l0_0.length c0_0) := (blk_cell BK145.out 0).trans rfl
              have hcz14_1 : wr.cell? ⟨gb145, 1, none⟩ = some (.bool true) := (blk_cell BK145.out 1).trans rfl
              have hfz14_0 := blk_frozen BK145.out 0
              have hfz14_1 := blk_frozen BK145.out 1
              go_wp2
              go_meet
              case rel => exact ⟨_, (false), (by first | rfl | (simp; done) | (simp [*]; done)), H', ⟨by have := HK1.out; first | omega | exact Nat.le_refl _⟩, ⟨by (with_reducible repeat (first | refine blk_drewN ?_ _ | refine blk_drew ?_ | refine blk_alloc ?_ _)); exact BK145.out⟩, ⟨by repeat (first | (with_reducible first | exact HB.out | apply below_alloc | apply pw_below_drewN | apply below_drew1 | refine below_set ?_ GE145.out) | exact HB.out)⟩⟩
            · replace c13 := Bool.eq_false_iff.mpr c13
              subst c13
              have H1 : (if 0 < (l0_0.length : Int) then (if ((rd_L8 l0_0 0).length : Int) = 1 then (if 0 < ((rd_L8 l0_0 0).length : Int) then (spec_ExprGood.j1 k1 (((rd_T57 (rd_L8 l0_0 0) 0).f0) || (!(((rd_T57 (rd_L8 l0_0 0) 0).f1) == 0) || (!(((rd_T57 (rd_L8 l0_0 0) 0).f2) == 0) || (!(((rd_T57 (rd_L8 l0_0 0) 0).f3) == 1))))) l0_0 false) else (none)) else (spec_ExprGood.j1 k1 true l0_0 false)) else (none)) = some r := by rw [if_neg (show ¬ (false = true) by decide)] at H; exact H
              clear H
              have H := H1
              clear H1
              by_cases c15 : 0 < (l0_0.length : Int)
              · rw [if_pos c15] at H
                have c15b0 : decide (0 < (l0_0.length : Int)) = true := decide_eq_true c15
                have c15b1 : decide (0 < l0_0.length) = true := decide_eq_true (by omega)
                clear c15
                (first | rw [c15b0] | (simp only [i64_w, i32_w]; rw [c15b0]) | skip)
                by_cases c16 : ((rd_L8 l0_0 0).length : Int) = 1
                · rw [if_pos c16] at H
                  have c16b0 : (((rd_L8 l0_0 0).length : Int) == 1) = true := beq_iff_eq.mpr c16
                  have c16b1 : (((rd_L8 l0_0 0).length : Int) != 1) = false := bne_eq_false_iff_eq.mpr c16
                  clear c16
                  by_cases c17 : 0 < ((rd_L8 l0_0 0).length : Int)
                  · rw [if_pos c17] at H
                    have c17b0 : decide (0 < ((rd_L8 l0_0 0).length : Int)) = true := decide_eq_true c17
                    have c17b1 : decide (0 < (rd_L8 l0_0 0).length) = true := decide_eq_true (by omega)
                    clear c17
                    have H' := Aside0.mk H
                    clear H
                    have hcz18_0 : wr.cell? ⟨gb145, 0, none⟩ = some (.slice A0_0 l0_0.length c0_0) := (blk_cell BK145.out 0).trans rfl
                    have hcz18_1 : wr.cell? ⟨gb145, 1, none⟩ = some (.bool false) := (blk_cell BK145.out 1).trans rfl
                    have hfz18_0 := blk_frozen BK145.out 0
                    have hfz18_1 := blk_frozen BK145.out 1
                    have p148 : 0 ≤ (0 : Int) := (by omega)
                    have q148 : 0 < (l0_0.length : Int) := of_decide_eq_true (by first | (with_reducible assumption) | assumption)
                    obtain ⟨ad148, A148_0, c148_0, e148, hx148_0, hl148_0, hi148_0⟩ := at_L8 HR0_0.out 0 p148 q148
                    cases e148
                    have qi148 : (0 < l0_0.length) = True := eq_true (by omega)
                    (try rw [show ((0 : Int)).toNat = 0 from rfl] at hx148_0)
                    (try rw [Addr.add_zero'] at hx148_0)
                    replace hx148_0 := (HB.out.cell (World.block_lt_of_cell? w _ hx148_0)).trans hx148_0
                    have HR148_0 := Aside0.mk hi148_0
                    have HC148_0 := Aside0.mk hl148_0
                    clear hi148_0 hl148_0
                    replace p148 := eq_true p148
                    replace q148 := eq_true q148
                    have p149 : 0 ≤ (0 : Int) := (by omega)
                    have q149 : 0 < (l0_0.length : Int) := of_decide_eq_true (by first | (with_reducible assumption) | assumption)
                    obtain ⟨ad149, A149_0, c149_0, e149, hx149_0, hl149_0, hi149_0⟩ := at_L8 HR0_0.out 0 p149 q149
                    obtain rfl : ad148 = ad149 := (by injection e149)
                    have qi149 : (0 < l0_0.length) = True := eq_true (by omega)
                    (try rw [show ((0 : Int)).toNat = 0 from rfl] at hx149_0)
                    (try rw [Addr.add_zero'] at hx149_0)
                    replace hx149_0 := (HB.out.cell (World.block_lt_of_cell? w _ hx149_0)).trans hx149_0
                    have HR149_0 := Aside0.mk hi149_0
                    have HC149_0 := Aside0.mk hl149_0
                    clear hi149_0 hl149_0
                    replace p149 := eq_true p149
                    replace q149 := eq_true q149
                    have ea_ := Option.some.inj (hx148_0.symm.trans hx149_0)
                    injection ea_ with ea_ en_ ec_
                    subst ea_
                    subst ec_
                    clear en_
                    have p150 : 0 ≤ (0 : Int) := (by omega)
                    have q150 : 0 < ((rd_L8 l0_0 0).length : Int) := of_decide_eq_true (by first | (with_reducible assumption) | assumption)
                    obtain ⟨ad150, e150, hx150_0, hx150_1, hx150_2, hx150_3⟩ := at_T57 HR149_0.out 0 p150 q150
                    cases e150
                    have qi150 : (0 < (rd_L8 l0_0 0).length) = True := eq_true (by omega)
                    (try rw [show ((0 : Int)).toNat = 0 from rfl] at hx150_0)
                    (try rw [show 0 * 4 = 0 from rfl] at hx150_0)
                    (try rw [Addr.add_zero'] at hx150_0)
                    (try rw [show ((0 : Int)).toNat = 0 from rfl] at hx150_1)
                    (try rw [show 0 * 4 = 0 from rfl] at hx150_1)
                    (try rw [Addr.add_zero'] at hx150_1)
                    (try rw [show ((0 : Int)).toNat = 0 from rfl] at hx150_2)
                    (try rw [show 0 * 4 = 0 from rfl] at hx150_2)
                    (try rw [Addr.add_zero'] at hx150_2)
                    (try rw [show ((0 : Int)).toNat = 0 from rfl] at hx150_3)
                    (try rw [show 0 * 4 = 0 from rfl] at hx150_3)
                    (try rw [Addr.add_zero'] at hx150_3)
                    replace hx150_0 := (HB.out.cell (World.block_lt_of_cell? w _ hx150_0)).trans hx150_0
                    replace hx150_1 := (HB.out.cell (World.block_lt_of_cell? w _ hx150_1)).trans hx150_1
                    replace hx150_2 := (HB.out.cell (World.block_lt_of_cell? w _ hx150_2)).trans hx150_2
                    replace hx150_3 := (HB.out.cell (World.block_lt_of_cell? w _ hx150_3)).trans hx150_3
                    replace p150 := eq_true p150
                    replace q150 := eq_true q150
                    go_wp2
                    go_meet
                    case rel => exact ⟨_, ((((rd_T57 (rd_L8 l0_0 0) 0).f0) || (!(((rd_T57 (rd_L8 l0_0 0) 0).f1) == 0) || (!(((rd_T57 (rd_L8 l0_0 0) 0).f2) == 0) || (!(((rd_T57 (rd_L8 l0_0 0) 0).f3) == 1)))))), (by first | rfl | (simp; done) | (simp [*]; done)), H', ⟨by have := HK1.out; first | omega | exact Nat.le_refl _⟩, ⟨by (with_reducible repeat (first | refine blk_drewN ?_ _ | refine blk_drew ?_ | refine blk_alloc ?_ _)); exact BK145.out⟩, ⟨by repeat (first | (with_reducible first | exact HB.out | apply below_alloc | apply pw_below_drewN | apply below_drew1 | refine below_set ?_ GE145.out) | exact HB.out)⟩⟩
                  · rw [if_neg c17] at H
                    exact absurd H (by simp)
                · rw [if_neg c16] at H
                  have c16b0 : (((rd_L8 l0_0 0).length : Int) == 1) = false := beq_eq_false_iff_ne.mpr c16
                  have c16b1 : (((rd_L8 l0_0 0).length : Int) != 1) = true := bne_iff_ne.mpr c16
                  have H' := Aside0.mk H
                  clear H
                  have hcz19_0 : wr.cell? ⟨gb145, 0, none⟩ = some (.slice A0_0 l0_0.length c0_0) := (blk_cell BK145.out 0).trans rfl
                  have hcz19_1 : wr.cell? ⟨gb145, 1, none⟩ = some (.bool false) := (blk_cell BK145.out 1).trans rfl
                  have hfz19_0 := blk_frozen BK145.out 0
                  have hfz19_1 := blk_frozen BK145.out 1
                  have p148 : 0 ≤ (0 : Int) := (by omega)
                  have q148 : 0 < (l0_0.length : Int) := of_decide_eq_true (by first | (with_reducible assumption) | assumption)
                  obtain ⟨ad148, A148_0, c148_0, e148, hx148_0, hl148_0, hi148_0⟩ := at_L8 HR0_0.out 0 p148 q148
                  cases e148
                  have qi148 : (0 < l0_0.length) = True := eq_true (by omega)
                  (try rw [show ((0 : Int)).toNat = 0 from rfl] at hx148_0)
                  (try rw [Addr.add_zero'] at hx148_0)
                  replace hx148_0 := (HB.out.cell (World.block_lt_of_cell? w _ hx148_0)).trans hx148_0
                  have HR148_0 := Aside0.mk hi148_0
                  have HC148_0 := Aside0.mk hl148_0
                  clear hi148_0 hl148_0
                  replace p148 := eq_true p148
                  replace q148 := eq_true q148
                  go_wp2
                  go_meet
                  case rel => exact ⟨_, (true), (by first | rfl | (simp; done) | (simp [*]; done)), H', ⟨by have := HK1.out; first | omega | exact Nat.le_refl _⟩, ⟨by (with_reducible repeat (first | refine blk_drewN ?_ _ | refine blk_drew ?_ | refine blk_alloc ?_ _)); exact BK145.out⟩, ⟨by repeat (first | (with_reducible first | exact HB.out | apply below_alloc | apply pw_below_drewN | apply below_drew1 | refine below_set ?_ GE145.out) | exact HB.out)⟩⟩
              · rw [if_neg c15] at H
                exact absurd H (by simp)
          case rest =>
            clear HC12
            try clear c1
            try clear p1
            try clear q1
            try clear hx1
            try clear qi1
            try clear c2
            try clear c2b0
            try clear c2b1
            try clear p2
            try clear c3
            try clear c4
            try clear c5
            try clear c5b0
            try clear c6
            try clear c6b0
            try clear p6
            try clear c7
            try clear c7b0
            try clear c9
            try clear c13
            try clear c14
            try clear p14
            try clear q14
            try clear hx14
            try clear qi14
            try clear c15
            try clear c15b0
            try clear c15b1
            try clear p15
            try clear q15
            try clear hx15
            try clear qi15
            try clear c16
            try clear c16b0
            try clear c16b1
            try clear c17
            try clear c17b0
            try clear c17b1
            try clear hcz14_0
            try clear hcz14_1
            try clear hcz18_0
            try clear hcz18_1
            try clear hcz19_0
            try clear hcz19_1
            try clear hcz4_0
            try clear hcz4_1
            try clear hfz14_0
            try clear hfz14_1
            try clear hfz18_0
            try clear hfz18_1
            try clear hfz19_0
            try clear hfz19_1
            try clear hfz4_0
            try clear hfz4_1
            try clear hx146_0
            try clear hx148_0
            try clear hx149_0
            try clear hx150_0
            try clear hx150_1
            try clear hx150_2
            try clear hx150_3
            try clear p146
            try clear p148
            try clear p149
            try clear p150
            try clear p2
            try clear q146
            try clear q148
            try clear q149
            try clear q150
            obtain ⟨kq, x44_11, rfl, HA, HJ11, BK145, HB⟩ := hcut
            cases kq with
            | zero => exact absurd HA.out (by simp [spec_ExprGood.j1])
            | succ kj11 =>
              have H := HA.out
              clear HA
              simp only [spec_ExprGood.j1] at H
              by_cases c20 : x44_11 = true
              · subst c20
                have H1 : (some false) = some r := by rw [if_pos rfl] at H; exact H
                clear H
                have H := H1
                clear H1
                obtain rfl := Option.some.inj H
                go_wp2
                go_ret
                exact ⟨by first | rfl | (simp [errW_none, errW_some] <;> rfl) | (simp [*, errW_none, errW_some] <;> rfl), by repeat (first | (with_reducible first | exact HB.out | apply below_alloc | apply pw_below_drewN | apply below_drew1 | refine below_set ?_ GE145.out) | exact HB.out)⟩
              · replace c20 := Bool.eq_false_iff.mpr c20
                subst c20
                have H1 : (if 3 < (l0_0.length : Int) then ((spec_Star.f (rd_L8 l0_0 3)).bind fun t152 => (if t152 = true then (spec_ExprGood.j2 kj11 false l0_0 a0_1) else (if 5 < (l0_0.length : Int) then ((spec_Star.f (rd_L8 l0_0 5)).bind fun t154 => (spec_ExprGood.j2 kj11 (!t154) l0_0 a0_1)) else (none)))) else (none)) = some r := by rw [if_neg (show ¬ (false = true) by decide)] at H; exact H
                clear H
                have H := H1
                clear H1
                have HC21 := Aside0.mk H
                clear H
                go_upto_region 11 with (fail)
                go_cut [58] (fun v58 wc => ∃ (kq : Nat) (x58_20 : Bool), v58 = .bool x58_20 ∧ Aside0 (spec_ExprGood.j2 kq x58_20 l0_0 a0_1 = some r) ∧ Aside0 (kq ≤ kj11) ∧ Aside0 (wc.heap[gb145]? = some (.cells #[(.slice A0_0 l0_0.length c0_0), .bool a0_1] 38 (0, 0))) ∧ Aside0 (Below w.heap.size w wc))
                case first =>
                  have H := HC21.out
                  clear HC21
                  by_cases c22 : 3 < (l0_0.length : Int)
                  · rw [if_pos c22] at H
                    have c22b0 : decide (3 < (l0_0.length : Int)) = true := decide_eq_true c22
                    have c22b1 : decide (3 < l0_0.length) = true := decide_eq_true (by omega)
                    clear c22
                    (first | rw [c22b0] | (simp only [i64_w, i32_w]; rw [c22b0]) | skip)
                    replace H := Option.bind_eq_some_iff.mp H
                    obtain ⟨t152, A230, H⟩ := H
                    replace H : (if t152 = true then (spec_ExprGood.j2 kj11 false l0_0 a0_1) else (if 5 < (l0_0.length : Int) then ((spec_Star.f (rd_L8 l0_0 5)).bind fun t154 => (spec_ExprGood.j2 kj11 (!t154) l0_0 a0_1)) else (none))) = some r := H
                    have A23 := Aside0.mk A230
                    clear A230
                    by_cases c24 : t152 = true
                    · subst c24
                      have H1 : (spec_ExprGood.j2 kj11 false l0_0 a0_1) = some r := by rw [if_pos rfl] at H; exact H
                      clear H
                      have H := H1
                      clear H1
                      have H' := Aside0.mk H
                      clear H
                      have hcz25_0 : wc.cell? ⟨gb145, 0, none⟩ = some (.slice A0_0 l0_0.length c0_0) := (blk_cell BK145.out 0).trans rfl
                      have hcz25_1 : wc.cell? ⟨gb145, 1, none⟩ = some (.bool a0_1) := (blk_cell BK145.out 1).trans rfl
                      have hfz25_0 := blk_frozen BK145.out 0
                      have hfz25_1 := blk_frozen BK145.out 1
                      have p151 : 0 ≤ (3 : Int) := (by omega)
                      have q151 : 3 < (l0_0.length : Int) := of_decide_eq_true (by first | (with_reducible assumption) | assumption)
                      obtain ⟨ad151, A151_0, c151_0, e151, hx151_0, hl151_0, hi151_0⟩ := at_L8 HR0_0.out 3 p151 q151
                      cases e151
                      (try simp only [show (3 : Int).toNat = 3 from rfl, Nat.reduceMul, Nat.reduceEqDiff, Go.Addr.add, ↓reduceIte] at hx151_0)
                      have qi151 : (3 < l0_0.length) = True := eq_true (by omega)
                      (try rw [show ((3 : Int)).toNat = 3 from rfl] at hx151_0)
                      replace hx151_0 := (HB.out.cell (World.block_lt_of_cell? w _ hx151_0)).trans hx151_0
                      have HR151_0 := Aside0.mk hi151_0
                      have HC151_0 := Aside0.mk hl151_0
                      clear hi151_0 hl151_0
                      replace p151 := eq_true p151
                      replace q151 := eq_true q151
                      go_wp2_with (first | ((with_reducible refine gate_callee (f := 48) rfl ?_); refine goesL_ (some 49) rfl rfl Tryz.func48 (by kernel_rfl) rfl #[.slice A151_0 (rd_L8 l0_0 3).length c151_0] rfl (by (try simp only [List.map_toArray, List.map_cons, List.map_nil]); first | done | rfl | (simp only [List.length_drop, List.length_take]; rfl)) ?_; (with_reducible refine (spec_Star.calls _ _ (rd_L8 l0_0 3) true _ ?side1 ?side2 A23.out).mono ?_); (case side1 => repeat (first | exact (Kd.C_below HR151_0.out HB.out) | (with_reducible refine Kd.C_alloc ?_ _) | (with_reducible refine Kd.C_drewN ?_ _) | (with_reducible refine Kd.C_drew ?_))); (case side2 => exact HC151_0.out); rintro e w' ⟨rfl, ⟨nd, rfl⟩⟩; refine ⟨_, rfl, ?_⟩))
                      go_meet
                      case rel => exact ⟨_, (false), (by first | rfl | (simp; done) | (simp [*]; done)), H', ⟨by have := HK1.out; have := HJ11.out; first | omega | exact Nat.le_refl _⟩, ⟨by (with_reducible repeat (first | refine blk_drewN ?_ _ | refine blk_drew ?_ | refine blk_alloc ?_ _)); exact BK145.out⟩, ⟨by repeat (first | (with_reducible first | exact HB.out | apply below_alloc | apply pw_below_drewN | apply below_drew1 | refine below_set ?_ GE145.out) | exact HB.out)⟩⟩
                    · replace c24 := Bool.eq_false_iff.mpr c24
                      subst c24
                      have H1 : (if 5 < (l0_0.length : Int) then ((spec_Star.f (rd_L8 l0_0 5)).bind fun t154 => (spec_ExprGood.j2 kj11 (!t154) l0_0 a0_1)) else (none)) = some r := by rw [if_neg (show ¬ (false = true) by decide)] at H; exact H
                      clear H
                      have H := H1
                      clear H1
                      by_cases c26 : 5 < (l0_0.length : Int)
                      · rw [if_pos c26] at H
                        have c26b0 : decide (5 < (l0_0.length : Int)) = true := decide_eq_true c26
                        have c26b1 : decide (5 < l0_0.length) = true := decide_eq_true (by omega)
                        clear c26
                        replace H := Option.bind_eq_some_iff.mp H
                        obtain ⟨t154, A270, H⟩ := H
                        replace H : (spec_ExprGood.j2 kj11 (!t154) l0_0 a0_1) = some r := H
                        have A27 := Aside0.mk A270
                        clear A270
                        have H' := Aside0.mk H
                        clear H
                        have hcz28_0 : wc.cell? ⟨gb145, 0, none⟩ = some (.slice A0_0 l0_0.length c0_0) := (blk_cell BK145.out 0).trans rfl
                        have hcz28_1 : wc.cell? ⟨gb145, 1, none⟩ = some (.bool a0_1) := (blk_cell BK145.out 1).trans rfl
                        have hfz28_0 := blk_frozen BK145.out 0
                        have hfz28_1 := blk_frozen BK145.out 1
                        have p151 : 0 ≤ (3 : Int) := (by omega)
                        have q151 : 3 < (l0_0.length : Int) := of_decide_eq_true (by first | (with_reducible assumption) | assumption)
                        obtain ⟨ad151, A151_0, c151_0, e151, hx151_0, hl151_0, hi151_0⟩ := at_L8 HR0_0.out 3 p151 q151
                        cases e151
                        (try simp only [show (3 : Int).toNat = 3 from rfl, Nat.reduceMul, Nat.reduceEqDiff, Go.Addr.add, ↓reduceIte] at hx151_0)
                        have qi151 : (3 < l0_0.length) = True := eq_true (by omega)
                        (try rw [show ((3 : Int)).toNat = 3 from rfl] at hx151_0)
                        replace hx151_0 := (HB.out.cell (World.block_lt_of_cell? w _ hx151_0)).trans hx151_0
                        have HR151_0 := Aside0.mk hi151_0
                        have HC151_0 := Aside0.mk hl151_0
                        clear hi151_0 hl151_0
                        replace p151 := eq_true p151
                        replace q151 := eq_true q151
                        go_wp2_with (first | ((with_reducible refine gate_callee (f := 48) rfl ?_); refine goesL_ (some 49) rfl rfl Tryz.func48 (by kernel_rfl) rfl #[.slice A151_0 (rd_L8 l0_0 3).length c151_0] rfl (by (try simp only [List.map_toArray, List.map_cons, List.map_nil]); first | done | rfl | (simp only [List.length_drop, List.length_take]; rfl)) ?_; (with_reducible refine (spec_Star.calls _ _ (rd_L8 l0_0 3) false _ ?side1 ?side2 A23.out).mono ?_); (case side1 => repeat (first | exact (Kd.C_below HR151_0.out HB.out) | (with_reducible refine Kd.C_alloc ?_ _) | (with_reducible refine Kd.C_drewN ?_ _) | (with_reducible refine Kd.C_drew ?_))); (case side2 => exact HC151_0.out); rintro e w' ⟨rfl, ⟨nd, rfl⟩⟩; refine ⟨_, rfl, ?_⟩; have p153 : 0 ≤ (5 : Int) := (by omega); have q153 : 5 < (l0_0.length : Int) := of_decide_eq_true (by first | (with_reducible assumption) | assumption); obtain ⟨ad153, A153_0, c153_0, e153, hx153_0, hl153_0, hi153_0⟩ := at_L8 HR0_0.out 5 p153 q153; obtain rfl : ad151 = ad153 := (by injection e153); (try simp only [show (5 : Int).toNat = 5 from rfl, Nat.reduceMul, Nat.reduceEqDiff, Go.Addr.add, ↓reduceIte] at hx153_0); have qi153 : (5 < l0_0.length) = True := eq_true (by omega); (try rw [show ((5 : Int)).toNat = 5 from rfl] at hx153_0); replace hx153_0 := (HB.out.cell (World.block_lt_of_cell? w _ hx153_0)).trans hx153_0; have HR153_0 := Aside0.mk hi153_0; have HC153_0 := Aside0.mk hl153_0; clear hi153_0 hl153_0; replace p153 := eq_true p153; replace q153 := eq_true q153) | (go_at_call 48; (with_reducible refine (spec_Star.calls _ _ (rd_L8 l0_0 5) t154 _ ?side1 ?side2 A27.out).mono ?_); (case side1 => repeat (first | exact (Kd.C_below HR153_0.out (by repeat (first | (with_reducible first | exact HB.out | apply below_alloc | apply pw_below_drewN | apply below_drew1 | refine below_set ?_ GE145.out) | exact HB.out))) | (with_reducible refine Kd.C_alloc ?_ _) | (with_reducible refine Kd.C_drewN ?_ _) | (with_reducible refine Kd.C_drew ?_))); (case side2 => exact HC153_0.out); rintro e w' ⟨rfl, ⟨nd, rfl⟩⟩))
                        go_meet
                        case rel => exact ⟨_, (!t154), (by first | rfl | (simp; done) | (simp [*]; done)), H', ⟨by have := HK1.out; have := HJ11.out; first | omega | exact Nat.le_refl _⟩, ⟨by (with_reducible repeat (first | refine blk_drewN ?_ _ | refine blk_drew ?_ | refine blk_alloc ?_ _)); exact BK145.out⟩, ⟨by repeat (first | (with_reducible first | exact HB.out | apply below_alloc | apply pw_below_drewN | apply below_drew1 | refine below_set ?_ GE145.out) | exact HB.out)⟩⟩
                      · rw [if_neg c26] at H
                        exact absurd H (by simp)
                  · rw [if_neg c22] at H
                    exact absurd H (by simp)
                case rest =>
                  clear HC21
                  try clear c1
                  try clear p1
                  try clear q1
                  try clear hx1
                  try clear qi1
                  try clear c2
                  try clear c2b0
                  try clear c2b1
                  try clear p2
                  try clear c3
                  try clear c4
                  try clear c5
                  try clear c5b0
                  try clear c6
                  try clear c6b0
                  try clear p6
                  try clear c7
                  try clear c7b0
                  try clear c9
                  try clear c13
                  try clear c14
                  try clear p14
                  try clear q14
                  try clear hx14
                  try clear qi14
                  try clear c15
                  try clear c15b0
                  try clear c15b1
                  try clear p15
                  try clear q15
                  try clear hx15
                  try clear qi15
                  try clear c16
                  try clear c16b0
                  try clear c16b1
                  try clear c17
                  try clear c17b0
                  try clear c17b1
                  try clear c20
                  try clear c22
                  try clear c22b0
                  try clear c22b1
                  try clear c24
                  try clear c26
                  try clear c26b0
                  try clear c26b1
                  try clear hcz14_0
                  try clear hcz14_1
                  try clear hcz18_0
                  try clear hcz18_1
                  try clear hcz19_0
                  try clear hcz19_1
                  try clear hcz25_0
                  try clear hcz25_1
                  try clear hcz28_0
                  try clear hcz28_1
                  try clear hcz4_0
                  try clear hcz4_1
                  try clear hfz14_0
                  try clear hfz14_1
                  try clear hfz18_0
                  try clear hfz18_1
                  try clear hfz19_0
                  try clear hfz19_1
                  try clear hfz25_0
                  try clear hfz25_1
                  try clear hfz28_0
                  try clear hfz28_1
                  try clear hfz4_0
                  try clear hfz4_1
                  try clear hx146_0
                  try clear hx148_0
                  try clear hx149_0
                  try clear hx150_0
                  try clear hx150_1
                  try clear hx150_2
                  try clear hx150_3
                  try clear hx151_0
                  try clear hx153_0
                  try clear p1
                  try clear p14
                  try clear p146
                  try clear p148
                  try clear p149
                  try clear p15
                  try clear p150
                  try clear p151
                  try clear p153
                  try clear p2
                  try clear p6
                  try clear q1
                  try clear q14
                  try clear q146
                  try clear q148
                  try clear q149
                  try clear q15
                  try clear q150
                  try clear q151
                  try clear q153
                  obtain ⟨kq, x58_20, rfl, HA, HJ20, BK145, HB⟩ := hcut
                  cases kq with
                  | zero => exact absurd HA.out (by simp [spec_ExprGood.j2])
                  | succ kj20 =>
                    have H := HA.out
                    clear HA
                    simp only [spec_ExprGood.j2] at H
                    by_cases c29 : x58_20 = true
                    · subst c29
                      have H1 : (some false) = some r := by rw [if_pos rfl] at H; exact H
                      clear H
                      have H := H1
                      clear H1
                      obtain rfl := Option.some.inj H
                      go_wp2
                      go_ret
                      exact ⟨by first | rfl | (simp [errW_none, errW_some] <;> rfl) | (simp [*, errW_none, errW_some] <;> rfl), by repeat (first | (with_reducible first | exact HB.out | apply below_alloc | apply pw_below_drewN | apply below_drew1 | refine below_set ?_ GE145.out) | exact HB.out)⟩
                    · replace c29 := Bool.eq_false_iff.mpr c29
                      subst c29
                      have H1 : (if 4 < (l0_0.length : Int) then ((spec_Star.f (rd_L8 l0_0 4)).bind fun t156 => (if t156 = true then (some true) else (if 3 < (l0_0.length : Int) then (spec_ExprGood.l1 kj20 (rd_L8 l0_0 3) ((rd_L8 l0_0 3).length : Int) 0) else (none)))) else (none)) = some r := by rw [if_neg (show ¬ (false = true) by decide)] at H; exact H
                      clear H
                      have H := H1
                      clear H1
                      by_cases c30 : 4 < (l0_0.length : Int)
                      · rw [if_pos c30] at H
                        have c30b0 : decide (4 < (l0_0.length : Int)) = true := decide_eq_true c30
                        have c30b1 : decide (4 < l0_0.length) = true := decide_eq_true (by omega)
                        clear c30
                        replace H := Option.bind_eq_some_iff.mp H
                        obtain ⟨t156, A310, H⟩ := H
                        replace H : (if t156 = true then (some true) else (if 3 < (l0_0.length : Int) then (spec_ExprGood.l1 kj20 (rd_L8 l0_0 3) ((rd_L8 l0_0 3).length : Int) 0) else (none))) = some r := H
                        have A31 := Aside0.mk A310
                        clear A310
                        by_cases c32 : t156 = true
                        · subst c32
                          have H1 : (some true) = some r := by rw [if_pos rfl] at H; exact H
                          clear H
                          have H := H1
                          clear H1
                          obtain rfl := Option.some.inj H
                          have hcz33_0 : wc.cell? ⟨gb145, 0, none⟩ = some (.slice A0_0 l0_0.length c0_0) := (blk_cell BK145.out 0).trans rfl
                          have hcz33_1 : wc.cell? ⟨gb145, 1, none⟩ = some (.bool a0_1) := (blk_cell BK145.out 1).trans rfl
                          have hfz33_0 := blk_frozen BK145.out 0
                          have hfz33_1 := blk_frozen BK145.out 1
                          have p155 : 0 ≤ (4 : Int) := (by omega)
                          have q155 : 4 < (l0_0.length : Int) := of_decide_eq_true (by first | (with_reducible assumption) | assumption)
                          obtain ⟨ad155, A155_0, c155_0, e155, hx155_0, hl155_0, hi155_0⟩ := at_L8 HR0_0.out 4 p155 q155
                          cases e155
                          (try simp only [show (4 : Int).toNat = 4 from rfl, Nat.reduceMul, Nat.reduceEqDiff, Go.Addr.add, ↓reduceIte] at hx155_0)
                          have qi155 : (4 < l0_0.length) = True := eq_true (by omega)
                          (try rw [show ((4 : Int)).toNat = 4 from rfl] at hx155_0)
                          replace hx155_0 := (HB.out.cell (World.block_lt_of_cell? w _ hx155_0)).trans hx155_0
                          have HR155_0 := Aside0.mk hi155_0
                          have HC155_0 := Aside0.mk hl155_0
                          clear hi155_0 hl155_0
                          replace p155 := eq_true p155
                          replace q155 := eq_true q155
                          go_wp2_with (first | ((with_reducible refine gate_callee (f := 48) rfl ?_); refine goesL_ (some 63) rfl rfl Tryz.func48 (by kernel_rfl) rfl #[.slice A155_0 (rd_L8 l0_0 4).length c155_0] rfl (by (try simp only [List.map_toArray, List.map_cons, List.map_nil]); first | done | rfl | (simp only [List.length_drop, List.length_take]; rfl)) ?_; (with_reducible refine (spec_Star.calls _ _ (rd_L8 l0_0 4) true _ ?side1 ?side2 A31.out).mono ?_); (case side1 => repeat (first | exact (Kd.C_below HR155_0.out HB.out) | (with_reducible refine Kd.C_alloc ?_ _) | (with_reducible refine Kd.C_drewN ?_ _) | (with_reducible refine Kd.C_drew ?_))); (case side2 => exact HC155_0.out); rintro e w' ⟨rfl, ⟨nd, rfl⟩⟩; refine ⟨_, rfl, ?_⟩))
                          go_ret
                          exact ⟨by first | rfl | (simp [errW_none, errW_some] <;> rfl) | (simp [*, errW_none, errW_some] <;> rfl), by repeat (first | (with_reducible first | exact HB.out | apply below_alloc | apply pw_below_drewN | apply below_drew1 | refine below_set ?_ GE145.out) | exact HB.out)⟩
                        · replace c32 := Bool.eq_false_iff.mpr c32
                          subst c32
                          have H1 : (if 3 < (l0_0.length : Int) then (spec_ExprGood.l1 kj20 (rd_L8 l0_0 3) ((rd_L8 l0_0 3).length : Int) 0) else (none)) = some r := by rw [if_neg (show ¬ (false = true) by decide)] at H; exact H
                          clear H
                          have H := H1
                          clear H1
                          by_cases c34 : 3 < (l0_0.length : Int)
                          · rw [if_pos c34] at H
                            have c34b0 : decide (3 < (l0_0.length : Int)) = true := decide_eq_true c34
                            have c34b1 : decide (3 < l0_0.length) = true := decide_eq_true (by omega)
                            clear c34
                            have H' := Aside0.mk H
                            clear H
                            have hcz35_0 : wc.cell? ⟨gb145, 0, none⟩ = some (.slice A0_0 l0_0.length c0_0) := (blk_cell BK145.out 0).trans rfl
                            have hcz35_1 : wc.cell? ⟨gb145, 1, none⟩ = some (.bool a0_1) := (blk_cell BK145.out 1).trans rfl
                            have hfz35_0 := blk_frozen BK145.out 0
                            have hfz35_1 := blk_frozen BK145.out 1
                            have p155 : 0 ≤ (4 : Int) := (by omega)
                            have q155 : 4 < (l0_0.length : Int) := of_decide_eq_true (by first | (with_reducible assumption) | assumption)
                            obtain ⟨ad155, A155_0, c155_0, e155, hx155_0, hl155_0, hi155_0⟩ := at_L8 HR0_0.out 4 p155 q155
                            cases e155
                            (try simp only [show (4 : Int).toNat = 4 from rfl, Nat.reduceMul, Nat.reduceEqDiff, Go.Addr.add, ↓reduceIte] at hx155_0)
                            have qi155 : (4 < l0_0.length) = True := eq_true (by omega)
                            (try rw [show ((4 : Int)).toNat = 4 from rfl] at hx155_0)
                            replace hx155_0 := (HB.out.cell (World.block_lt_of_cell? w _ hx155_0)).trans hx155_0
                            have HR155_0 := Aside0.mk hi155_0
                            have HC155_0 := Aside0.mk hl155_0
                            clear hi155_0 hl155_0
                            replace p155 := eq_true p155
                            replace q155 := eq_true q155
                            go_wp2_with (first | ((with_reducible refine gate_callee (f := 48) rfl ?_); refine goesL_ (some 63) rfl rfl Tryz.func48 (by kernel_rfl) rfl #[.slice A155_0 (rd_L8 l0_0 4).length c155_0] rfl (by (try simp only [List.map_toArray, List.map_cons, List.map_nil]); first | done | rfl | (simp only [List.length_drop, List.length_take]; rfl)) ?_; (with_reducible refine (spec_Star.calls _ _ (rd_L8 l0_0 4) false _ ?side1 ?side2 A31.out).mono ?_); (case side1 => repeat (first | exact (Kd.C_below HR155_0.out HB.out) | (with_reducible refine Kd.C_alloc ?_ _) | (with_reducible refine Kd.C_drewN ?_ _) | (with_reducible refine Kd.C_drew ?_))); (case side2 => exact HC155_0.out); rintro e w' ⟨rfl, ⟨nd, rfl⟩⟩; refine ⟨_, rfl, ?_⟩; have p157 : 0 ≤ (3 : Int) := (by omega); have q157 : 3 < (l0_0.length : Int) := of_decide_eq_true (by first | (with_reducible assumption) | assumption); obtain ⟨ad157, A157_0, c157_0, e157, hx157_0, hl157_0, hi157_0⟩ := at_L8 HR0_0.out 3 p157 q157; obtain rfl : ad155 = ad157 := (by injection e157); (try simp only [show (3 : Int).toNat = 3 from rfl, Nat.reduceMul, Nat.reduceEqDiff, Go.Addr.add, ↓reduceIte] at hx157_0); have qi157 : (3 < l0_0.length) = True := eq_true (by omega); (try rw [show ((3 : Int)).toNat = 3 from rfl] at hx157_0); replace hx157_0 := (HB.out.cell (World.block_lt_of_cell? w _ hx157_0)).trans hx157_0; have HR157_0 := Aside0.mk hi157_0; have HC157_0 := Aside0.mk hl157_0; clear hi157_0 hl157_0; replace p157 := eq_true p157; replace q157 := eq_true q157))
                            go_loopg [70] kj20 (fun kq v70 w' => ∃ (x70_4 : Int), v70 = .int .i64 x70_4 ∧ Aside0 (spec_ExprGood.l1 kq (rd_L8 l0_0 3) ((rd_L8 l0_0 3).length : Int) x70_4 = some r) ∧ Aside0 (kq ≤ kj20) ∧ Aside0 (w'.heap[gb145]? = some (.cells #[(.slice (some ad155) l0_0.length c0_0), .bool a0_1] 38 (0, 0))) ∧ Aside0 (Below w.heap.size w w'))
                            case atStart => exact ⟨(0), (by first | rfl | (simp; done) | (simp [*]; done)), H', ⟨Nat.le_refl _⟩, ⟨by (with_reducible repeat (first | refine blk_drewN ?_ _ | refine blk_drew ?_ | refine blk_alloc ?_ _)); exact BK145.out⟩, ⟨by repeat (first | (with_reducible first | exact HB.out | apply below_alloc | apply pw_below_drewN | apply below_drew1 | refine below_set ?_ GE145.out) | exact HB.out)⟩⟩
                            case round =>
                              clear H'
                              try clear c1
                              try clear p1
                              try clear q1
                              try clear hx1
                              try clear qi1
                              try clear c2
                              try clear c2b0
                              try clear c2b1
                              try clear p2
                              try clear c3
                              try clear c4
                              try clear c5
                              try clear c5b0
                              try clear c6
                              try clear c6b0
                              try clear p6
                              try clear c7
                              try clear c7b0
                              try clear c9
                              try clear c13
                              try clear c14
                              try clear p14
                              try clear q14
                              try clear hx14
                              try clear qi14
                              try clear c15
                              try clear c15b0
                              try clear c15b1
                              try clear p15
                              try clear q15
                              try clear hx15
                              try clear qi15
                              try clear c16
                              try clear c16b0
                              try clear c16b1
                              try clear c17
                              try clear c17b0
                              try clear c17b1
                              try clear c20
                              try clear c22
                              try clear c22b0
                              try clear c22b1
                              try clear c24
                              try clear c26
                              try clear c26b0
                              try clear c26b1
                              try clear c29
                              try clear c30
                              try clear c30b0
                              try clear c30b1
                              try clear c32
                              try clear c34
                              try clear c34b0
                              try clear c34b1
                              try clear hcz14_0
                              try clear hcz14_1
                              try clear hcz18_0
                              try clear hcz18_1
                              try clear hcz19_0
                              try clear hcz19_1
                              try clear hcz25_0
                              try clear hcz25_1
                              try clear hcz28_0
                              try clear hcz28_1
                              try clear hcz33_0
                              try clear hcz33_1
                              try clear hcz35_0
                              try clear hcz35_1
                              try clear hcz4_0
                              try clear hcz4_1
                              try clear hfz14_0
                              try clear hfz14_1
                              try clear hfz18_0
                              try clear hfz18_1
                              try clear hfz19_0
                              try clear hfz19_1
                              try clear hfz25_0
                              try clear hfz25_1
                              try clear hfz28_0
                              try clear hfz28_1
                              try clear hfz33_0
                              try clear hfz33_1
                              try clear hfz35_0
                              try clear hfz35_1
                              try clear hfz4_0
                              try clear hfz4_1
                              try clear hx146_0
                              try clear hx148_0
                              try clear hx149_0
                              try clear hx150_0
                              try clear hx150_1
                              try clear hx150_2
                              try clear hx150_3
                              try clear hx151_0
                              try clear hx153_0
                              try clear hx155_0
                              try clear hx157_0
                              try clear p1
                              try clear p14
                              try clear p146
                              try clear p148
                              try clear p149
                              try clear p15
                              try clear p150
                              try clear p151
                              try clear p153
                              try clear p155
                              try clear p157
                              try clear p2
                              try clear p6
                              try clear q1
                              try clear q14
                              try clear q146
                              try clear q148
                              try clear q149
                              try clear q15
                              try clear q150
                              try clear q151
                              try clear q153
                              try clear q155
                              try clear q157
                              obtain ⟨x70_4, rfl, HA, HK4, BK145, HB⟩ := hrel
                              cases gk with
                              | zero => exact absurd HA.out (by simp [spec_ExprGood.l1])
                              | succ k4 =>
                                have H := HA.out
                                clear HA
                                simp only [spec_ExprGood.l1] at H
                                by_cases c36 : x70_4 < ((rd_L8 l0_0 3).length : Int)
                                · rw [if_pos c36] at H
                                  have c36b0 : decide (x70_4 < ((rd_L8 l0_0 3).length : Int)) = true := decide_eq_true c36
                                  clear c36
                                  by_cases c37 : 0 ≤ x70_4
                                  · rw [if_pos c37] at H
                                    have c37b0 : decide (0 ≤ x70_4) = true := decide_eq_true c37
                                    clear c37
                                    by_cases c38 : x70_4 < ((rd_L8 l0_0 3).length : Int)
                                    · rw [if_pos c38] at H
                                      have c38b0 : decide (x70_4 < ((rd_L8 l0_0 3).length : Int)) = true := decide_eq_true c38
                                      clear c38
                                      obtain ⟨bq39, hbq39⟩ : ∃ b_ : Bool, b_ = ((rd_T57 (rd_L8 l0_0 3) x70_4).f0) := ⟨_, rfl⟩
                                      replace H : (if (bq39 = true) then (spec_ExprGood.l1 k4 (rd_L8 l0_0 3) ((rd_L8 l0_0 3).length : Int) (wrap64 (x70_4 + 1))) else (if ((rd_T57 (rd_L8 l0_0 3) x70_4).f1) > 28 then (some false) else (spec_ExprGood.l1 k4 (rd_L8 l0_0 3) ((rd_L8 l0_0 3).length : Int) (wrap64 (x70_4 + 1))))) = some r := by rw [← hbq39] at H; exact H
                                      have Nbq39 := Aside0.mk hbq39
                                      clear hbq39
                                      by_cases c40 : (bq39 = true)
                                      · subst c40
                                        have H1 : (spec_ExprGood.l1 k4 (rd_L8 l0_0 3) ((rd_L8 l0_0 3).length : Int) (wrap64 (x70_4 + 1))) = some r := by rw [if_pos rfl] at H; exact H
                                        clear H
                                        have H := H1
                                        clear H1
                                        have H' := Aside0.mk H
                                        clear H
                                        have p158 : 0 ≤ (x70_4 : Int) := of_decide_eq_true (by first | (with_reducible assumption) | assumption)
                                        have q158 : x70_4 < ((rd_L8 l0_0 3).length : Int) := of_decide_eq_true (by first | (with_reducible assumption) | assumption)
                                        obtain ⟨ad158, e158, hx158_0, hx158_1, hx158_2, hx158_3⟩ := at_T57 HR157_0.out x70_4 p158 q158
                                        (try rw [← Nbq39.out] at hx158_0)
                                        cases e158
                                        replace hx158_0 := (HB.out.cell (World.block_lt_of_cell? w _ hx158_0)).trans hx158_0
                                        replace hx158_1 := (HB.out.cell (World.block_lt_of_cell? w _ hx158_1)).trans hx158_1
                                        replace hx158_2 := (HB.out.cell (World.block_lt_of_cell? w _ hx158_2)).trans hx158_2
                                        replace hx158_3 := (HB.out.cell (World.block_lt_of_cell? w _ hx158_3)).trans hx158_3
                                        replace p158 := eq_true p158
                                        replace q158 := eq_true q158
                                        go_wp2_with (first | ((with_reducible refine gate_dst (N := 6) rfl ?_); (try (refine gate_guard (by rfl) ?_; dsimp only)); refine box_event ?hg (N := 6) ?hd (cs := #[.bool false, .int .i64 0, .int .i64 0, .int .i64 0]) (t := 57) ?hr ?_; (case hd => rfl); (case hg => rfl); (case hr => first | (go_simp; done) | (go_simp; rfl)); intro gb159 hg w41 hbox hb; have n0_ := Aside0.mk (blk_below (g := gb145) (o := .cells #[.slice (some ad155) l0_0.length c0_0, .bool a0_1] 38 (0, 0)) (by (with_reducible repeat (first | refine blk_drewN ?_ _ | refine blk_drew ?_ | refine blk_alloc ?_ _)); exact BK145.out) hb); have n1_ := Aside0.mk (below_step (by repeat (first | (with_reducible first | exact HB.out | apply below_alloc | apply pw_below_drewN | apply below_drew1 | refine below_set ?_ GE145.out) | exact HB.out)) hb); have n2_ := Aside0.mk (hbox); have n3_ := Aside0.mk ((by rw [hg]; exact (below_size (by repeat (first | (with_reducible first | exact HB.out | apply below_alloc | apply pw_below_drewN | apply below_drew1 | refine below_set ?_ GE145.out) | exact HB.out))) : w.heap.size ≤ gb159)); have n4_ := Aside0.mk ((by rw [hg]; exact (below_size (by repeat (first | (with_reducible first | exact HB.out | apply below_alloc | apply pw_below_drewN | apply below_drew1 | refine below_set ?_ GE145.out) | exact HB.out))) : w.heap.size ≤ gb159)); have n5_ := Aside0.mk ((by rw [hg]; exact Nat.ne_of_lt (blk_lt (g := gb145) (o := .cells #[.slice (some ad155) l0_0.length c0_0, .bool a0_1] 38 (0, 0)) (by (with_reducible repeat (first | refine blk_drewN ?_ _ | refine blk_drew ?_ | refine blk_alloc ?_ _)); exact BK145.out)) : gb145 ≠ gb159)); have n6_ := Aside0.mk ((by rw [hg]; exact Nat.ne_of_gt (blk_lt (g := gb145) (o := .cells #[.slice (some ad155) l0_0.length c0_0, .bool a0_1] 38 (0, 0)) (by (with_reducible repeat (first | refine blk_drewN ?_ _ | refine blk_drew ?_ | refine blk_alloc ?_ _)); exact BK145.out)) : gb159 ≠ gb145)); clear BK145; clear HB; have BK145 := n0_; have HB := n1_; have BK159 := n2_; have GW159 := n3_; have GE159 := n4_; have NB145_159 := n5_; have NB159_145 := n6_; clear n0_ n1_ n2_ n3_ n4_ n5_ n6_; clear hb hbox hg; have hnb42 := NB159_145.out; have hnc42 := NB145_159.out; have hcz43_0 : w41.cell? ⟨gb159, 0, none⟩ = some (.bool false) := (blk_cell BK159.out 0).trans rfl; have hcz43_1 : w41.cell? ⟨gb159, 1, none⟩ = some (.int .i64 0) := (blk_cell BK159.out 1).trans rfl; have hcz43_2 : w41.cell? ⟨gb159, 2, none⟩ = some (.int .i64 0) := (blk_cell BK159.out 2).trans rfl; have hcz43_3 : w41.cell? ⟨gb159, 3, none⟩ = some (.int .i64 0) := (blk_cell BK159.out 3).trans rfl; have hfz43_0 := blk_frozen BK159.out 0; have hfz43_1 := blk_frozen BK159.out 1; have hfz43_2 := blk_frozen BK159.out 2; have hfz43_3 := blk_frozen BK159.out 3))
                                        go_roundg k4
                                        case measure => have := HK1.out; have := HJ11.out; have := HJ20.out; have := HK4.out; omega
                                        case rel => exact ⟨(wrap64 (x70_4 + 1)), (by first | rfl | (simp; done) | (simp [*]; done)), H', ⟨by have := HK1.out; have := HJ11.out; have := HJ20.out; have := HK4.out; omega⟩, ⟨by (with_reducible repeat (first | refine blk_drewN ?_ _ | refine blk_drew ?_ | refine blk_alloc ?_ _)); refine blk_far ?_ NB145_159.out _; (with_reducible repeat (first | refine blk_drewN ?_ _ | refine blk_drew ?_ | refine blk_alloc ?_ _)); refine blk_far ?_ NB145_159.out _; (with_reducible repeat (first | refine blk_drewN ?_ _ | refine blk_drew ?_ | refine blk_alloc ?_ _)); refine blk_far ?_ NB145_159.out _; (with_reducible repeat (first | refine blk_drewN ?_ _ | refine blk_drew ?_ | refine blk_alloc ?_ _)); refine blk_far ?_ NB145_159.out _; (with_reducible repeat (first | refine blk_drewN ?_ _ | refine blk_drew ?_ | refine blk_alloc ?_ _)); exact BK145.out⟩, ⟨by repeat (first | (with_reducible first | exact HB.out | apply below_alloc | apply pw_below_drewN | apply below_drew1 | refine below_set ?_ GE145.out | refine below_set ?_ GE159.out) | exact HB.out)⟩⟩
                                      · replace c40 := Bool.eq_false_iff.mpr c40
                                        subst c40
                                        have H1 : (if ((rd_T57 (rd_L8 l0_0 3) x70_4).f1) > 28 then (some false) else (spec_ExprGood.l1 k4 (rd_L8 l0_0 3) ((rd_L8 l0_0 3).length : Int) (wrap64 (x70_4 + 1)))) = some r := by rw [if_neg (show ¬ (false = true) by decide)] at H; exact H
                                        clear H
                                        have H := H1
                                        clear H1
                                        by_cases c44 : ((rd_T57 (rd_L8 l0_0 3) x70_4).f1) > 28
                                        · rw [if_pos c44] at H
                                          have c44b0 : decide (28 < ((rd_T57 (rd_L8 l0_0 3) x70_4).f1)) = true := decide_eq_true c44
                                          clear c44
                                          obtain rfl := Option.some.inj H
                                          have p158 : 0 ≤ (x70_4 : Int) := of_decide_eq_true (by first | (with_reducible assumption) | assumption)
                                          have q158 : x70_4 < ((rd_L8 l0_0 3).length : Int) := of_decide_eq_true (by first | (with_reducible assumption) | assumption)
                                          obtain ⟨ad158, e158, hx158_0, hx158_1, hx158_2, hx158_3⟩ := at_T57 HR157_0.out x70_4 p158 q158
                                          (try rw [← Nbq39.out] at hx158_0)
                                          cases e158
                                          replace hx158_0 := (HB.out.cell (World.block_lt_of_cell? w _ hx158_0)).trans hx158_0
                                          replace hx158_1 := (HB.out.cell (World.block_lt_of_cell? w _ hx158_1)).trans hx158_1
                                          replace hx158_2 := (HB.out.cell (World.block_lt_of_cell? w _ hx158_2)).trans hx158_2
                                          replace hx158_3 := (HB.out.cell (World.block_lt_of_cell? w _ hx158_3)).trans hx158_3
                                          replace p158 := eq_true p158
                                          replace q158 := eq_true q158
                                          go_wp2_with (first | ((with_reducible refine gate_dst (N := 6) rfl ?_); (try (refine gate_guard (by rfl) ?_; dsimp only)); refine box_event ?hg (N := 6) ?hd (cs := #[.bool false, .int .i64 0, .int .i64 0, .int .i64 0]) (t := 57) ?hr ?_; (case hd => rfl); (case hg => rfl); (case hr => first | (go_simp; done) | (go_simp; rfl)); intro gb159 hg w45 hbox hb; have n0_ := Aside0.mk (blk_below (g := gb145) (o := .cells #[.slice (some ad155) l0_0.length c0_0, .bool a0_1] 38 (0, 0)) (by (with_reducible repeat (first | refine blk_drewN ?_ _ | refine blk_drew ?_ | refine blk_alloc ?_ _)); exact BK145.out) hb); have n1_ := Aside0.mk (below_step (by repeat (first | (with_reducible first | exact HB.out | apply below_alloc | apply pw_below_drewN | apply below_drew1 | refine below_set ?_ GE145.out) | exact HB.out)) hb); have n2_ := Aside0.mk (hbox); have n3_ := Aside0.mk ((by rw [hg]; exact (below_size (by repeat (first | (with_reducible first | exact HB.out | apply below_alloc | apply pw_below_drewN | apply below_drew1 | refine below_set ?_ GE145.out) | exact HB.out))) : w.heap.size ≤ gb159)); have n4_ := Aside0.mk ((by rw [hg]; exact (below_size (by repeat (first | (with_reducible first | exact HB.out | apply below_alloc | apply pw_below_drewN | apply below_drew1 | refine below_set ?_ GE145.out) | exact HB.out))) : w.heap.size ≤ gb159)); have n5_ := Aside0.mk ((by rw [hg]; exact Nat.ne_of_lt (blk_lt (g := gb145) (o := .cells #[.slice (some ad155) l0_0.length c0_0, .bool a0_1] 38 (0, 0)) (by (with_reducible repeat (first | refine blk_drewN ?_ _ | refine blk_drew ?_ | refine blk_alloc ?_ _)); exact BK145.out)) : gb145 ≠ gb159)); have n6_ := Aside0.mk ((by rw [hg]; exact Nat.ne_of_gt (blk_lt (g := gb145) (o := .cells #[.slice (some ad155) l0_0.length c0_0, .bool a0_1] 38 (0, 0)) (by (with_reducible repeat (first | refine blk_drewN ?_ _ | refine blk_drew ?_ | refine blk_alloc ?_ _)); exact BK145.out)) : gb159 ≠ gb145)); clear BK145; clear HB; have BK145 := n0_; have HB := n1_; have BK159 := n2_; have GW159 := n3_; have GE159 := n4_; have NB145_159 := n5_; have NB159_145 := n6_; clear n0_ n1_ n2_ n3_ n4_ n5_ n6_; clear hb hbox hg; have hnb46 := NB159_145.out; have hnc46 := NB145_159.out; have hcz47_0 : w45.cell? ⟨gb159, 0, none⟩ = some (.bool false) := (blk_cell BK159.out 0).trans rfl; have hcz47_1 : w45.cell? ⟨gb159, 1, none⟩ = some (.int .i64 0) := (blk_cell BK159.out 1).trans rfl; have hcz47_2 : w45.cell? ⟨gb159, 2, none⟩ = some (.int .i64 0) := (blk_cell BK159.out 2).trans rfl; have hcz47_3 : w45.cell? ⟨gb159, 3, none⟩ = some (.int .i64 0) := (blk_cell BK159.out 3).trans rfl; have hfz47_0 := blk_frozen BK159.out 0; have hfz47_1 := blk_frozen BK159.out 1; have hfz47_2 := blk_frozen BK159.out 2; have hfz47_3 := blk_frozen BK159.out 3))
                                          go_ret
                                          exact ⟨by first | rfl | (simp [errW_none, errW_some] <;> rfl) | (simp [*, errW_none, errW_some] <;> rfl), by repeat (first | (with_reducible first | exact HB.out | apply below_alloc | apply pw_below_drewN | apply below_drew1 | refine below_set ?_ GE145.out | refine below_set ?_ GE159.out) | exact HB.out)⟩
                                        · rw [if_neg c44] at H
                                          have c44b0 : decide (28 < ((rd_T57 (rd_L8 l0_0 3) x70_4).f1)) = false := decide_eq_false c44
                                          clear c44
                                          have H' := Aside0.mk H
                                          clear H
                                          have p158 : 0 ≤ (x70_4 : Int) := of_decide_eq_true (by first | (with_reducible assumption) | assumption)
                                          have q158 : x70_4 < ((rd_L8 l0_0 3).length : Int) := of_decide_eq_true (by first | (with_reducible assumption) | assumption)
                                          obtain ⟨ad158, e158, hx158_0, hx158_1, hx158_2, hx158_3⟩ := at_T57 HR157_0.out x70_4 p158 q158
                                          (try rw [← Nbq39.out] at hx158_0)
                                          cases e158
                                          replace hx158_0 := (HB.out.cell (World.block_lt_of_cell? w _ hx158_0)).trans hx158_0
                                          replace hx158_1 := (HB.out.cell (World.block_lt_of_cell? w _ hx158_1)).trans hx158_1
                                          replace hx158_2 := (HB.out.cell (World.block_lt_of_cell? w _ hx158_2)).trans hx158_2
                                          replace hx158_3 := (HB.out.cell (World.block_lt_of_cell? w _ hx158_3)).trans hx158_3
                                          replace p158 := eq_true p158
                                          replace q158 := eq_true q158
                                          go_wp2_with (first | ((with_reducible refine gate_dst (N := 6) rfl ?_); (try (refine gate_guard (by rfl) ?_; dsimp only)); refine box_event ?hg (N := 6) ?hd (cs := #[.bool false, .int .i64 0, .int .i64 0, .int .i64 0]) (t := 57) ?hr ?_; (case hd => rfl); (case hg => rfl); (case hr => first | (go_simp; done) | (go_simp; rfl)); intro gb159 hg w48 hbox hb; have n0_ := Aside0.mk (blk_below (g := gb145) (o := .cells #[.slice (some ad155) l0_0.length c0_0, .bool a0_1] 38 (0, 0)) (by (with_reducible repeat (first | refine blk_drewN ?_ _ | refine blk_drew ?_ | refine blk_alloc ?_ _)); exact BK145.out) hb); have n1_ := Aside0.mk (below_step (by repeat (first | (with_reducible first | exact HB.out | apply below_alloc | apply pw_below_drewN | apply below_drew1 | refine below_set ?_ GE145.out) | exact HB.out)) hb); have n2_ := Aside0.mk (hbox); have n3_ := Aside0.mk ((by rw [hg]; exact (below_size (by repeat (first | (with_reducible first | exact HB.out | apply below_alloc | apply pw_below_drewN | apply below_drew1 | refine below_set ?_ GE145.out) | exact HB.out))) : w.heap.size ≤ gb159)); have n4_ := Aside0.mk ((by rw [hg]; exact (below_size (by repeat (first | (with_reducible first | exact HB.out | apply below_alloc | apply pw_below_drewN | apply below_drew1 | refine below_set ?_ GE145.out) | exact HB.out))) : w.heap.size ≤ gb159)); have n5_ := Aside0.mk ((by rw [hg]; exact Nat.ne_of_lt (blk_lt (g := gb145) (o := .cells #[.slice (some ad155) l0_0.length c0_0, .bool a0_1] 38 (0, 0)) (by (with_reducible repeat (first | refine blk_drewN ?_ _ | refine blk_drew ?_ | refine blk_alloc ?_ _)); exact BK145.out)) : gb145 ≠ gb159)); have n6_ := Aside0.mk ((by rw [hg]; exact Nat.ne_of_gt (blk_lt (g := gb145) (o := .cells #[.slice (some ad155) l0_0.length c0_0, .bool a0_1] 38 (0, 0)) (by (with_reducible repeat (first | refine blk_drewN ?_ _ | refine blk_drew ?_ | refine blk_alloc ?_ _)); exact BK145.out)) : gb159 ≠ gb145)); clear BK145; clear HB; have BK145 := n0_; have HB := n1_; have BK159 := n2_; have GW159 := n3_; have GE159 := n4_; have NB145_159 := n5_; have NB159_145 := n6_; clear n0_ n1_ n2_ n3_ n4_ n5_ n6_; clear hb hbox hg; have hnb49 := NB159_145.out; have hnc49 := NB145_159.out; have hcz50_0 : w48.cell? ⟨gb159, 0, none⟩ = some (.bool false) := (blk_cell BK159.out 0).trans rfl; have hcz50_1 : w48.cell? ⟨gb159, 1, none⟩ = some (.int .i64 0) := (blk_cell BK159.out 1).trans rfl; have hcz50_2 : w48.cell? ⟨gb159, 2, none⟩ = some (.int .i64 0) := (blk_cell BK159.out 2).trans rfl; have hcz50_3 : w48.cell? ⟨gb159, 3, none⟩ = some (.int .i64 0) := (blk_cell BK159.out 3).trans rfl; have hfz50_0 := blk_frozen BK159.out 0; have hfz50_1 := blk_frozen BK159.out 1; have hfz50_2 := blk_frozen BK159.out 2; have hfz50_3 := blk_frozen BK159.out 3))
                                          go_roundg k4
                                          case measure => have := HK1.out; have := HJ11.out; have := HJ20.out; have := HK4.out; omega
                                          case rel => exact ⟨(wrap64 (x70_4 + 1)), (by first | rfl | (simp; done) | (simp [*]; done)), H', ⟨by have := HK1.out; have := HJ11.out; have := HJ20.out; have := HK4.out; omega⟩, ⟨by (with_reducible repeat (first | refine blk_drewN ?_ _ | refine blk_drew ?_ | refine blk_alloc ?_ _)); refine blk_far ?_ NB145_159.out _; (with_reducible repeat (first | refine blk_drewN ?_ _ | refine blk_drew ?_ | refine blk_alloc ?_ _)); refine blk_far ?_ NB145_159.out _; (with_reducible repeat (first | refine blk_drewN ?_ _ | refine blk_drew ?_ | refine blk_alloc ?_ _)); refine blk_far ?_ NB145_159.out _; (with_reducible repeat (first | refine blk_drewN ?_ _ | refine blk_drew ?_ | refine blk_alloc ?_ _)); refine blk_far ?_ NB145_159.out _; (with_reducible repeat (first | refine blk_drewN ?_ _ | refine blk_drew ?_ | refine blk_alloc ?_ _)); exact BK145.out⟩, ⟨by repeat (first | (with_reducible first | exact HB.out | apply below_alloc | apply pw_below_drewN | apply below_drew1 | refine below_set ?_ GE145.out | refine below_set ?_ GE159.out) | exact HB.out)⟩⟩
                                    · rw [if_neg c38] at H
                                      exact absurd H (by simp)
                                  · rw [if_neg c37] at H
                                    exact absurd H (by simp)
                                · rw [if_neg c36] at H
                                  have c36b0 : decide (x70_4 < ((rd_L8 l0_0 3).length : Int)) = false := decide_eq_false c36
                                  clear c36
                                  obtain rfl := Option.some.inj H
                                  go_wp2
                                  go_ret
                                  exact ⟨by first | rfl | (simp [errW_none, errW_some] <;> rfl) | (simp [*, errW_none, errW_some] <;> rfl), by repeat (first | (with_reducible first | exact HB.out | apply below_alloc | apply pw_below_drewN | apply below_drew1 | refine below_set ?_ GE145.out) | exact HB.out)⟩
                          · rw [if_neg c34] at H
                            exact absurd H (by simp)
                      · rw [if_neg c30] at H
                        exact absurd H (by simp)
  · rw [if_neg c2] at H
    have c2b0 : ((l0_0.length : Int) == 6) = false := beq_eq_false_iff_ne.mpr c2
    have c2b1 : ((l0_0.length : Int) != 6) = true := bne_iff_ne.mpr c2
    obtain rfl := Option.some.inj H
    go_enter Tryz.func34, Tryz.ntmps34
    go_wp2_with (first | ((with_reducible refine gate_dst (N := 1) rfl ?_); (try (refine gate_guard (by rfl) ?_; dsimp only)); refine box_event ?hg (N := 1) ?hd (cs := #[.slice A0_0 l0_0.length c0_0, .bool a0_1]) (t := 38) ?hr ?_; (case hd => rfl); (case hg => rfl); (case hr => first | (go_simp; done) | (go_simp; rfl)); intro gb145 hg w51 hbox hb; have n0_ := Aside0.mk (below_step (by repeat (first | (with_reducible first | exact HB.out | apply below_alloc | apply pw_below_drewN | apply below_drew1) | exact HB.out)) hb); have n1_ := Aside0.mk (hbox); have n2_ := Aside0.mk ((by rw [hg]; exact (below_size (by repeat (first | (with_reducible first | exact HB.out | apply below_alloc | apply pw_below_drewN | apply below_drew1) | exact HB.out))) : w.heap.size ≤ gb145)); have n3_ := Aside0.mk ((by rw [hg]; exact (below_size (by repeat (first | (with_reducible first | exact HB.out | apply below_alloc | apply pw_below_drewN | apply below_drew1) | exact HB.out))) : w.heap.size ≤ gb145)); clear HB; have HB := n0_; have BK145 := n1_; have GW145 := n2_; have GE145 := n3_; clear n0_ n1_ n2_ n3_; clear hb hbox hg; have hcz52_0 : w51.cell? ⟨gb145, 0, none⟩ = some (.slice A0_0 l0_0.length c0_0) := (blk_cell BK145.out 0).trans rfl; have hcz52_1 : w51.cell? ⟨gb145, 1, none⟩ = some (.bool a0_1) := (blk_cell BK145.out 1).trans rfl; have hfz52_0 := blk_frozen BK145.out 0; have hfz52_1 := blk_frozen BK145.out 1))
    go_ret
    exact ⟨by first | rfl | (simp [errW_none, errW_some] <;> rfl) | (simp [*, errW_none, errW_some] <;> rfl), by repeat (first | (with_reducible first | exact HB.out | apply below_alloc | apply pw_below_drewN | apply below_drew1 | refine below_set ?_ GE145.out) | exact HB.out)⟩
end Go.Proofs.YtkhgeonlohafgaaGreatDoor.Core
namespace Go.Proofs.YtkhgeonlohafgaaGreatDoor.Core
open Go.RowKit Go.Proofs.YtkhgeonlohafgaaGreatDoorW.PrintWords Go.Proofs.YtkhgeonlohafgaaGreatDoorW.PrintLast Go.Proofs.YtkhgeonlohafgaaGreatDoorW.PrintMore
attribute [local go_sem] max2_int min2_int max_two min_two max_three min_three max_four min_four   -- for this text's walks alone
set_option linter.unusedVariables false
set_option linter.unusedSimpArgs false
def laws_moment.f (a0_0 : Int) (a0_1 : Int) (a0_2 : Int) (a0_3 : Int) (a0_4 : Int) (a0_5 : Int) : Option (Int × Int × Int × Int × Int × Int) := some (a0_0, a0_1, a0_2, a0_3, a0_4, a0_5)
set_option maxHeartbeats 8000000 in
set_option maxRecDepth 100000 in
theorem laws_moment.calls (a0_0 : Int) (a0_1 : Int) (a0_2 : Int) (a0_3 : Int) (a0_4 : Int) (a0_5 : Int) (r1 : Int) (r2 : Int) (r3 : Int) (r4 : Int) (r5 : Int) (r6 : Int) (w : World) (h : laws_moment.f a0_0 a0_1 a0_2 a0_3 a0_4 a0_5 = some (r1, r2, r3, r4, r5, r6)) :
    Calls Tryz.prog 13 #[.agg #[.int .i64 a0_0, .int .i64 a0_1, .int .i64 a0_2, .int .i64 a0_3, .int .i64 a0_4, .int .i64 a0_5]] w fun e w' => e = .returned (.agg #[.int .i64 r1, .int .i64 r2, .int .i64 r3, .int .i64 r4, .int .i64 r5, .int .i64 r6]) ∧ Below w.heap.size w w' := by
  have hu23 := Tryz.underlying23
  have hu25 := Tryz.underlying25
  have HB := Aside0.mk (Below.refl w.heap.size w)
  have H : (some (a0_0, a0_1, a0_2, a0_3, a0_4, a0_5)) = some (r1, r2, r3, r4, r5, r6) := h
  clear h
  simp only [Option.some.injEq, Prod.mk.injEq] at H
  obtain ⟨rfl, rfl, rfl, rfl, rfl, rfl⟩ := H
  go_enter Tryz.func13, Tryz.ntmps13
  go_wp2_with (first | ((with_reducible refine gate_dst (N := 1) rfl ?_); refine box_event ?hg (N := 1) ?hd (cs := #[.int .i64 a0_0, .int .i64 a0_1, .int .i64 a0_2, .int .i64 a0_3, .int .i64 a0_4, .int .i64 a0_5]) (t := 23) ?hr ?_; (case hd => rfl); (case hg => rfl); (case hr => first | (go_simp; done) | (go_simp; rfl)); intro gb101 hg w2 hbox hb; have n0_ := Aside0.mk (below_step (by repeat (first | (with_reducible first | exact HB.out | apply below_alloc | apply pw_below_drewN | apply below_drew1) | exact HB.out)) hb); have n1_ := Aside0.mk (hbox); have n2_ := Aside0.mk ((by rw [hg]; exact (below_size (by repeat (first | (with_reducible first | exact HB.out | apply below_alloc | apply pw_below_drewN | apply below_drew1) | exact HB.out))) : w.heap.size ≤ gb101)); have n3_ := Aside0.mk ((by rw [hg]; exact (below_size (by repeat (first | (with_reducible first | exact HB.out | apply below_alloc | apply pw_below_drewN | apply below_drew1) | exact HB.out))) : w.heap.size ≤ gb101)); clear HB; have HB := n0_; have BK101 := n1_; have GW101 := n2_; have GE101 := n3_; clear n0_ n1_ n2_ n3_; clear hb hbox hg) | ((with_reducible refine gate_dst (N := 2) rfl ?_); refine box_event ?hg (N := 2) ?hd (cs := #[.int .i64 0, .int .i64 0, .int .i64 0, .int .i64 0, .int .i64 0, .int .i64 0]) (t := 25) ?hr ?_; (case hd => rfl); (case hg => rfl); (case hr => first | (go_simp; done) | (go_simp; rfl)); intro gb102 hg w3 hbox hb; have n0_ := Aside0.mk (blk_below (g := gb101) (o := .cells #[.int .i64 a0_0, .int .i64 a0_1, .int .i64 a0_2, .int .i64 a0_3, .int .i64 a0_4, .int .i64 a0_5] 23 (0, 0)) (by (with_reducible repeat (first | refine blk_drewN ?_ _ | refine blk_drew ?_ | refine blk_alloc ?_ _)); exact BK101.out) hb); have n1_ := Aside0.mk (below_step (by repeat (first | (with_reducible first | exact HB.out | apply below_alloc | apply pw_below_drewN | apply below_drew1 | refine below_set ?_ GE101.out) | exact HB.out)) hb); have n2_ := Aside0.mk (hbox); have n3_ := Aside0.mk ((by rw [hg]; exact (below_size (by repeat (first | (with_reducible first | exact HB.out | apply below_alloc | apply pw_below_drewN | apply below_drew1 | refine below_set ?_ GE101.out) | exact HB.out))) : w.heap.size ≤ gb102)); have n4_ := Aside0.mk ((by rw [hg]; exact (below_size (by repeat (first | (with_reducible first | exact HB.out | apply below_alloc | apply pw_below_drewN | apply below_drew1 | refine below_set ?_ GE101.out) | exact HB.out))) : w.heap.size ≤ gb102)); have n5_ := Aside0.mk ((by rw [hg]; exact Nat.ne_of_lt (blk_lt (g := gb101) (o := .cells #[.int .i64 a0_0, .int .i64 a0_1, .int .i64 a0_2, .int .i64 a0_3, .int .i64 a0_4, .int .i64 a0_5] 23 (0, 0)) (by (with_reducible repeat (first | refine blk_drewN ?_ _ | refine blk_drew ?_ | refine blk_alloc ?_ _)); exact BK101.out)) : gb101 ≠ gb102)); have n6_ := Aside0.mk ((by rw [hg]; exact Nat.ne_of_gt (blk_lt (g := gb101) (o := .cells #[.int .i64 a0_0, .int .i64 a0_1, .int .i64 a0_2, .int .i64 a0_3, .int .i64 a0_4, .int .i64 a0_5] 23 (0, 0)) (by (with_reducible repeat (first | refine blk_drewN ?_ _ | refine blk_drew ?_ | refine blk_alloc ?_ _)); exact BK101.out)) : gb102 ≠ gb101)); clear BK101; clear HB; have BK101 := n0_; have HB := n1_; have BK102 := n2_; have GW102 := n3_; have GE102 := n4_; have NB101_102 := n5_; have NB102_101 := n6_; clear n0_ n1_ n2_ n3_ n4_ n5_ n6_; clear hb hbox hg; have hnb4 := NB101_102.out; have hnc4 := NB102_101.out; have hcz5_0 : w3.cell? ⟨gb101, 0, none⟩ = some (.int .i64 a0_0) := (blk_cell BK101.out 0).trans rfl; have hcz5_1 : w3.cell? ⟨gb101, 1, none⟩ = some (.int .i64 a0_1) := (blk_cell BK101.out 1).trans rfl; have hcz5_2 : w3.cell? ⟨gb101, 2, none⟩ = some (.int .i64 a0_2) := (blk_cell BK101.out 2).trans rfl; have hcz5_3 : w3.cell? ⟨gb101, 3, none⟩ = some (.int .i64 a0_3) := (blk_cell BK101.out 3).trans rfl; have hcz5_4 : w3.cell? ⟨gb101, 4, none⟩ = some (.int .i64 a0_4) := (blk_cell BK101.out 4).trans rfl; have hcz5_5 : w3.cell? ⟨gb101, 5, none⟩ = some (.int .i64 a0_5) := (blk_cell BK101.out 5).trans rfl; have hfz5_0 := blk_frozen BK101.out 0; have hfz5_1 := blk_frozen BK101.out 1; have hfz5_2 := blk_frozen BK101.out 2; have hfz5_3 := blk_frozen BK101.out 3; have hfz5_4 := blk_frozen BK101.out 4; have hfz5_5 := blk_frozen BK101.out 5; have hcz6_0 : w3.cell? ⟨gb102, 0, none⟩ = some (.int .i64 0) := (blk_cell BK102.out 0).trans rfl; have hcz6_1 : w3.cell? ⟨gb102, 1, none⟩ = some (.int .i64 0) := (blk_cell BK102.out 1).trans rfl; have hcz6_2 : w3.cell? ⟨gb102, 2, none⟩ = some (.int .i64 0) := (blk_cell BK102.out 2).trans rfl; have hcz6_3 : w3.cell? ⟨gb102, 3, none⟩ = some (.int .i64 0) := (blk_cell BK102.out 3).trans rfl; have hcz6_4 : w3.cell? ⟨gb102, 4, none⟩ = some (.int .i64 0) := (blk_cell BK102.out 4).trans rfl; have hcz6_5 : w3.cell? ⟨gb102, 5, none⟩ = some (.int .i64 0) := (blk_cell BK102.out 5).trans rfl; have hfz6_0 := blk_frozen BK102.out 0; have hfz6_1 := blk_frozen BK102.out 1; have hfz6_2 := blk_frozen BK102.out 2; have hfz6_3 := blk_frozen BK102.out 3; have hfz6_4 := blk_frozen BK102.out 4; have hfz6_5 := blk_frozen BK102.out 5))
  refine bodyPost_ret (results_cell_row rfl _ _ gb102 25 #[.int .i64 a0_0, .int .i64 a0_1, .int .i64 a0_2, .int .i64 a0_3, .int .i64 a0_4, .int .i64 a0_5] (0, 0) _ rfl (by (with_reducible repeat (first | refine blk_drewN ?_ _ | refine blk_drew ?_ | refine blk_alloc ?_ _)); refine blk_put (cs := #[.int .i64 a0_0, .int .i64 a0_1, .int .i64 a0_2, .int .i64 a0_3, .int .i64 a0_4, .int .i64 0]) ?_ 5 _ rfl; (with_reducible repeat (first | refine blk_drewN ?_ _ | refine blk_drew ?_ | refine blk_alloc ?_ _)); refine blk_put (cs := #[.int .i64 a0_0, .int .i64 a0_1, .int .i64 a0_2, .int .i64 a0_3, .int .i64 0, .int .i64 0]) ?_ 4 _ rfl; (with_reducible repeat (first | refine blk_drewN ?_ _ | refine blk_drew ?_ | refine blk_alloc ?_ _)); refine blk_put (cs := #[.int .i64 a0_0, .int .i64 a0_1, .int .i64 a0_2, .int .i64 0, .int .i64 0, .int .i64 0]) ?_ 3 _ rfl; (with_reducible repeat (first | refine blk_drewN ?_ _ | refine blk_drew ?_ | refine blk_alloc ?_ _)); refine blk_put (cs := #[.int .i64 a0_0, .int .i64 a0_1, .int .i64 0, .int .i64 0, .int .i64 0, .int .i64 0]) ?_ 2 _ rfl; (with_reducible repeat (first | refine blk_drewN ?_ _ | refine blk_drew ?_ | refine blk_alloc ?_ _)); refine blk_put (cs := #[.int .i64 a0_0, .int .i64 0, .int .i64 0, .int .i64 0, .int .i64 0, .int .i64 0]) ?_ 1 _ rfl; (with_reducible repeat (first | refine blk_drewN ?_ _ | refine blk_drew ?_ | refine blk_alloc ?_ _)); refine blk_put (cs := #[.int .i64 0, .int .i64 0, .int .i64 0, .int .i64 0, .int .i64 0, .int .i64 0]) ?_ 0 _ rfl; (with_reducible repeat (first | refine blk_drewN ?_ _ | refine blk_drew ?_ | refine blk_alloc ?_ _)); exact BK102.out) Tryz.underlying25 rfl (by kernel_rfl)) rfl ?_
  exact ⟨by first | rfl | (simp [errW_none, errW_some] <;> rfl) | (simp [*, errW_none, errW_some] <;> rfl), by repeat (first | (with_reducible first | exact HB.out | apply below_alloc | apply pw_below_drewN | apply below_drew1 | refine below_set ?_ GE101.out | refine below_set ?_ GE102.out) | exact HB.out)⟩
end Go.Proofs.YtkhgeonlohafgaaGreatDoor.Core
namespace Go.Proofs.YtkhgeonlohafgaaGreatDoor.Core
open Go.RowKit
theorem calls_one {P : Program} {f : FuncId} {args : Array Value} {w : World} {r r' : Value} {R R' : World → Prop} (h : Calls P f args w fun e w' => e = .returned r ∧ R w') (h' : Calls P f args w fun e w' => e = .returned r' ∧ R' w') (hi : P.inits.idxOf? f = none) : r = r' := by
  have g : ∀ {q : Value} {Q : World → Prop}, Calls P f args w (fun e w' => e = .returned q ∧ Q w') → Calls P f args w fun | .returned v, w' => v = q ∧ w' = w' | _, _ => False :=
    fun h => h.mono fun e w' h => by obtain ⟨rfl, _⟩ := h; exact ⟨rfl, rfl⟩
  obtain ⟨n, v, w1, e1, r1, _⟩ := (g h).done hi
  obtain ⟨m, v', w2, e2, r2, _⟩ := (g h').done hi
  have := runN_same_end e1 e2
  injection this with hv
  rw [← r1, ← r2, hv]
end Go.Proofs.YtkhgeonlohafgaaGreatDoor.Core
namespace Go.Proofs.YtkhgeonlohafgaaGreatDoor.Core
open Go.RowKit
def GoodC (y mo d h mi s : Int) (b : Bool) : Prop := ∀ w, Calls Tryz.prog 12 #[.agg #[.int .i64 y, .int .i64 mo, .int .i64 d, .int .i64 h, .int .i64 mi, .int .i64 s]] w fun e w' => e = .returned (.bool b) ∧ Below w.heap.size w w'
open Classical in
noncomputable def spec_MomentGood.f (y mo d h mi s : Int) : Option Bool :=
  if hx : ∃ p : Bool, GoodC y mo d h mi s p then some (Classical.choose hx) else none
theorem spec_MomentGood.calls (y mo d h mi s : Int) (r : Bool) (w : World) (hf : spec_MomentGood.f y mo d h mi s = some r) :
    Calls Tryz.prog 12 #[.agg #[.int .i64 y, .int .i64 mo, .int .i64 d, .int .i64 h, .int .i64 mi, .int .i64 s]] w fun e w' => e = .returned (.bool r) ∧ Below w.heap.size w w' := by
  unfold spec_MomentGood.f at hf
  split at hf
  · rename_i hx
    have hp := Classical.choose_spec hx
    rw [Option.some.inj hf] at hp
    exact hp w
  · cases hf
theorem GoodC.eq {y mo d h mi s : Int} {b : Bool} (hd : GoodC y mo d h mi s b) : spec_MomentGood.f y mo d h mi s = some b := by
  have hx : ∃ p : Bool, GoodC y mo d h mi s p := ⟨b, hd⟩
  unfold spec_MomentGood.f
  rw [dif_pos hx]
  have hp := Classical.choose_spec hx
  have e := calls_one (hp default) (hd default) (by kernel_rfl)
  injection e with e
  rw [e]
end Go.Proofs.YtkhgeonlohafgaaGreatDoor.Core
namespace Go.Proofs.YtkhgeonlohafgaaGreatDoor.Core
open Go.RowKit Go.Proofs.YtkhgeonlohafgaaGreatDoorW.PrintWords Go.Proofs.YtkhgeonlohafgaaGreatDoorW.PrintLast Go.Proofs.YtkhgeonlohafgaaGreatDoorW.PrintMore
attribute [local go_sem] max2_int min2_int max_two min_two max_three min_three max_four min_four   -- for this text's walks alone
set_option linter.unusedVariables false
set_option linter.unusedSimpArgs false
noncomputable def laws_asked.f (k : Nat) (l0_0 : List (List (S57))) (a0_1 : Bool) (a1_0 : Int) (a1_1 : Int) (a1_2 : Int) (a1_3 : Int) (a1_4 : Int) (a1_5 : Int) : Option (Bool) := (spec_ExprGood.f k l0_0 a0_1).bind fun t162 => (if t162 = true then ((laws_moment.f a1_0 a1_1 a1_2 a1_3 a1_4 a1_5).bind fun bt163 => ((spec_MomentGood.f bt163.1 bt163.2.1 bt163.2.2.1 bt163.2.2.2.1 bt163.2.2.2.2.1 bt163.2.2.2.2.2).bind fun t169 => (some t169))) else (some false))
set_option maxHeartbeats 8000000 in
set_option maxRecDepth 100000 in
theorem laws_asked.calls (k : Nat) (A0_0 : Option Addr) (c0_0 : Nat) (l0_0 : List (List (S57))) (a0_1 : Bool) (a1_0 : Int) (a1_1 : Int) (a1_2 : Int) (a1_3 : Int) (a1_4 : Int) (a1_5 : Int) (r : Bool) (w : World) (hr0_0 : Kd.C (Kd.slice 57 k57) w A0_0 l0_0.length l0_0) (hc0_0 : l0_0.length ≤ c0_0) (h : laws_asked.f k l0_0 a0_1 a1_0 a1_1 a1_2 a1_3 a1_4 a1_5 = some r) :
    Calls Tryz.prog 21 #[.agg #[.slice A0_0 l0_0.length c0_0, .bool a0_1], .agg #[.int .i64 a1_0, .int .i64 a1_1, .int .i64 a1_2, .int .i64 a1_3, .int .i64 a1_4, .int .i64 a1_5]] w fun e w' => e = .returned (.bool r) ∧ Below w.heap.size w w' := by
  have hu38 := Tryz.underlying38
  have hu23 := Tryz.underlying23
  have HR0_0 := Aside0.mk hr0_0
  have HC0_0 := Aside0.mk hc0_0
  clear hr0_0 hc0_0
  have HB := Aside0.mk (Below.refl w.heap.size w)
  have H : ((spec_ExprGood.f k l0_0 a0_1).bind fun t162 => (if t162 = true then ((laws_moment.f a1_0 a1_1 a1_2 a1_3 a1_4 a1_5).bind fun bt163 => ((spec_MomentGood.f bt163.1 bt163.2.1 bt163.2.2.1 bt163.2.2.2.1 bt163.2.2.2.2.1 bt163.2.2.2.2.2).bind fun t169 => (some t169))) else (some false))) = some r := h
  clear h
  replace H := Option.bind_eq_some_iff.mp H
  obtain ⟨t162, A30, H⟩ := H
  replace H : (if t162 = true then ((laws_moment.f a1_0 a1_1 a1_2 a1_3 a1_4 a1_5).bind fun bt163 => ((spec_MomentGood.f bt163.1 bt163.2.1 bt163.2.2.1 bt163.2.2.2.1 bt163.2.2.2.2.1 bt163.2.2.2.2.2).bind fun t169 => (some t169))) else (some false)) = some r := H
  have A3 := Aside0.mk A30
  clear A30
  by_cases c4 : t162 = true
  · subst c4
    have H1 : ((laws_moment.f a1_0 a1_1 a1_2 a1_3 a1_4 a1_5).bind fun bt163 => ((spec_MomentGood.f bt163.1 bt163.2.1 bt163.2.2.1 bt163.2.2.2.1 bt163.2.2.2.2.1 bt163.2.2.2.2.2).bind fun t169 => (some t169))) = some r := by rw [if_pos rfl] at H; exact H
    clear H
    have H := H1
    clear H1
    replace H := Option.bind_eq_some_iff.mp H
    obtain ⟨⟨t163, t164, t165, t166, t167, t168⟩, A50, H⟩ := H
    replace H : ((spec_MomentGood.f t163 t164 t165 t166 t167 t168).bind fun t169 => (some t169)) = some r := H
    have A5 := Aside0.mk A50
    clear A50
    replace H := Option.bind_eq_some_iff.mp H
    obtain ⟨t169, A60, H⟩ := H
    replace H : (some t169) = some r := H
    have A6 := Aside0.mk A60
    clear A60
    obtain rfl := Option.some.inj H
    go_enter Tryz.func21, Tryz.ntmps21
    go_wp2_with (first | ((with_reducible refine gate_dst (N := 2) rfl ?_); refine box_event ?hg (N := 2) ?hd (cs := #[.slice A0_0 l0_0.length c0_0, .bool a0_1]) (t := 38) ?hr ?_; (case hd => rfl); (case hg => rfl); (case hr => first | (go_simp; done) | (go_simp; rfl)); intro gb160 hg w7 hbox hb; have n0_ := Aside0.mk (below_step (by repeat (first | (with_reducible first | exact HB.out | apply below_alloc | apply pw_below_drewN | apply below_drew1) | exact HB.out)) hb); have n1_ := Aside0.mk (hbox); have n2_ := Aside0.mk ((by rw [hg]; exact (below_size (by repeat (first | (with_reducible first | exact HB.out | apply below_alloc | apply pw_below_drewN | apply below_drew1) | exact HB.out))) : w.heap.size ≤ gb160)); have n3_ := Aside0.mk ((by rw [hg]; exact (below_size (by repeat (first | (with_reducible first | exact HB.out | apply below_alloc | apply pw_below_drewN | apply below_drew1) | exact HB.out))) : w.heap.size ≤ gb160)); clear HB; have HB := n0_; have BK160 := n1_; have GW160 := n2_; have GE160 := n3_; clear n0_ n1_ n2_ n3_; clear hb hbox hg) | ((with_reducible refine gate_dst (N := 3) rfl ?_); refine box_event ?hg (N := 3) ?hd (cs := #[.int .i64 a1_0, .int .i64 a1_1, .int .i64 a1_2, .int .i64 a1_3, .int .i64 a1_4, .int .i64 a1_5]) (t := 23) ?hr ?_; (case hd => rfl); (case hg => rfl); (case hr => first | (go_simp; done) | (go_simp; rfl)); intro gb161 hg w8 hbox hb; have n0_ := Aside0.mk (blk_below (g := gb160) (o := .cells #[.slice A0_0 l0_0.length c0_0, .bool a0_1] 38 (0, 0)) (by (with_reducible repeat (first | refine blk_drewN ?_ _ | refine blk_drew ?_ | refine blk_alloc ?_ _)); exact BK160.out) hb); have n1_ := Aside0.mk (below_step (by repeat (first | (with_reducible first | exact HB.out | apply below_alloc | apply pw_below_drewN | apply below_drew1 | refine below_set ?_ GE160.out) | exact HB.out)) hb); have n2_ := Aside0.mk (hbox); have n3_ := Aside0.mk ((by rw [hg]; exact (below_size (by repeat (first | (with_reducible first | exact HB.out | apply below_alloc | apply pw_below_drewN | apply below_drew1 | refine below_set ?_ GE160.out) | exact HB.out))) : w.heap.size ≤ gb161)); have n4_ := Aside0.mk ((by rw [hg]; exact (below_size (by repeat (first | (with_reducible first | exact HB.out | apply below_alloc | apply pw_below_drewN | apply below_drew1 | refine below_set ?_ GE160.out) | exact HB.out))) : w.heap.size ≤ gb161)); have n5_ := Aside0.mk ((by rw [hg]; exact Nat.ne_of_lt (blk_lt (g := gb160) (o := .cells #[.slice A0_0 l0_0.length c0_0, .bool a0_1] 38 (0, 0)) (by (with_reducible repeat (first | refine blk_drewN ?_ _ | refine blk_drew ?_ | refine blk_alloc ?_ _)); exact BK160.out)) : gb160 ≠ gb161)); have n6_ := Aside0.mk ((by rw [hg]; exact Nat.ne_of_gt (blk_lt (g := gb160) (o := .cells #[.slice A0_0 l0_0.length c0_0, .bool a0_1] 38 (0, 0)) (by (with_reducible repeat (first | refine blk_drewN ?_ _ | refine blk_drew ?_ | refine blk_alloc ?_ _)); exact BK160.out)) : gb161 ≠ gb160)); clear BK160; clear HB; have BK160 := n0_; have HB := n1_; have BK161 := n2_; have GW161 := n3_; have GE161 := n4_; have NB160_161 := n5_; have NB161_160 := n6_; clear n0_ n1_ n2_ n3_ n4_ n5_ n6_; clear hb hbox hg; have hnb9 := NB160_161.out; have hnc9 := NB161_160.out; have hcz10_0 : w8.cell? ⟨gb160, 0, none⟩ = some (.slice A0_0 l0_0.length c0_0) := (blk_cell BK160.out 0).trans rfl; have hcz10_1 : w8.cell? ⟨gb160, 1, none⟩ = some (.bool a0_1) := (blk_cell BK160.out 1).trans rfl; have hfz10_0 := blk_frozen BK160.out 0; have hfz10_1 := blk_frozen BK160.out 1) | ((with_reducible refine gate_callee (f := 34) rfl ?_); refine goesL_ (some 6) rfl rfl Tryz.func34 (by kernel_rfl) rfl #[.agg #[.slice A0_0 l0_0.length c0_0, .bool a0_1]] rfl (by (try simp only [List.map_toArray, List.map_cons, List.map_nil]); first | done | rfl | (simp only [List.length_drop, List.length_take]; rfl)) ?_; (with_reducible refine (spec_ExprGood.calls k _ _ l0_0 a0_1 true _ ?side1 ?side2 A3.out).mono ?_); (case side1 => repeat (first | exact (Kd.C_below HR0_0.out HB.out) | (with_reducible refine Kd.C_alloc ?_ _) | (with_reducible refine Kd.C_drewN ?_ _) | (with_reducible refine Kd.C_drew ?_))); (case side2 => exact HC0_0.out); rintro e w11 ⟨rfl, hb⟩; refine ⟨_, rfl, ?_⟩; have n0_ := Aside0.mk (blk_below (g := gb160) (o := .cells #[.slice A0_0 l0_0.length c0_0, .bool a0_1] 38 (0, 0)) (by (with_reducible repeat (first | refine blk_drewN ?_ _ | refine blk_drew ?_ | refine blk_alloc ?_ _)); exact BK160.out) hb); have n1_ := Aside0.mk (blk_below (g := gb161) (o := .cells #[.int .i64 a1_0, .int .i64 a1_1, .int .i64 a1_2, .int .i64 a1_3, .int .i64 a1_4, .int .i64 a1_5] 23 (0, 0)) (by (with_reducible repeat (first | refine blk_drewN ?_ _ | refine blk_drew ?_ | refine blk_alloc ?_ _)); exact BK161.out) hb); have n2_ := Aside0.mk (below_step (by repeat (first | (with_reducible first | exact HB.out | apply below_alloc | apply pw_below_drewN | apply below_drew1 | refine below_set ?_ GE160.out | refine below_set ?_ GE161.out) | exact HB.out)) hb); clear BK160; clear BK161; clear HB; have BK160 := n0_; have BK161 := n1_; have HB := n2_; clear n0_ n1_ n2_; (try clear hb); (try clear hb2); (try clear hk); (try clear hi); have hcz12_0 : w11.cell? ⟨gb161, 0, none⟩ = some (.int .i64 a1_0) := (blk_cell BK161.out 0).trans rfl; have hcz12_1 : w11.cell? ⟨gb161, 1, none⟩ = some (.int .i64 a1_1) := (blk_cell BK161.out 1).trans rfl; have hcz12_2 : w11.cell? ⟨gb161, 2, none⟩ = some (.int .i64 a1_2) := (blk_cell BK161.out 2).trans rfl; have hcz12_3 : w11.cell? ⟨gb161, 3, none⟩ = some (.int .i64 a1_3) := (blk_cell BK161.out 3).trans rfl; have hcz12_4 : w11.cell? ⟨gb161, 4, none⟩ = some (.int .i64 a1_4) := (blk_cell BK161.out 4).trans rfl; have hcz12_5 : w11.cell? ⟨gb161, 5, none⟩ = some (.int .i64 a1_5) := (blk_cell BK161.out 5).trans rfl; have hfz12_0 := blk_frozen BK161.out 0; have hfz12_1 := blk_frozen BK161.out 1; have hfz12_2 := blk_frozen BK161.out 2; have hfz12_3 := blk_frozen BK161.out 3; have hfz12_4 := blk_frozen BK161.out 4; have hfz12_5 := blk_frozen BK161.out 5) | (go_at_call 13; (with_reducible refine (laws_moment.calls a1_0 a1_1 a1_2 a1_3 a1_4 a1_5 t163 t164 t165 t166 t167 t168 _ A5.out).mono ?_); rintro e w13 ⟨rfl, hb⟩; have n0_ := Aside0.mk (blk_below (g := gb160) (o := .cells #[.slice A0_0 l0_0.length c0_0, .bool a0_1] 38 (0, 0)) (by (with_reducible repeat (first | refine blk_drewN ?_ _ | refine blk_drew ?_ | refine blk_alloc ?_ _)); exact BK160.out) hb); have n1_ := Aside0.mk (blk_below (g := gb161) (o := .cells #[.int .i64 a1_0, .int .i64 a1_1, .int .i64 a1_2, .int .i64 a1_3, .int .i64 a1_4, .int .i64 a1_5] 23 (0, 0)) (by (with_reducible repeat (first | refine blk_drewN ?_ _ | refine blk_drew ?_ | refine blk_alloc ?_ _)); exact BK161.out) hb); have n2_ := Aside0.mk (below_step (by repeat (first | (with_reducible first | exact HB.out | apply below_alloc | apply pw_below_drewN | apply below_drew1 | refine below_set ?_ GE160.out | refine below_set ?_ GE161.out) | exact HB.out)) hb); clear BK160; clear BK161; clear HB; have BK160 := n0_; have BK161 := n1_; have HB := n2_; clear n0_ n1_ n2_; (try clear hb); (try clear hb2); (try clear hk); (try clear hi)) | (go_at_call 12; (with_reducible refine (spec_MomentGood.calls t163 t164 t165 t166 t167 t168 t169 _ A6.out).mono ?_); rintro e w14 ⟨rfl, hb⟩; have n0_ := Aside0.mk (blk_below (g := gb160) (o := .cells #[.slice A0_0 l0_0.length c0_0, .bool a0_1] 38 (0, 0)) (by (with_reducible repeat (first | refine blk_drewN ?_ _ | refine blk_drew ?_ | refine blk_alloc ?_ _)); exact BK160.out) hb); have n1_ := Aside0.mk (blk_below (g := gb161) (o := .cells #[.int .i64 a1_0, .int .i64 a1_1, .int .i64 a1_2, .int .i64 a1_3, .int .i64 a1_4, .int .i64 a1_5] 23 (0, 0)) (by (with_reducible repeat (first | refine blk_drewN ?_ _ | refine blk_drew ?_ | refine blk_alloc ?_ _)); exact BK161.out) hb); have n2_ := Aside0.mk (below_step (by repeat (first | (with_reducible first | exact HB.out | apply below_alloc | apply pw_below_drewN | apply below_drew1 | refine below_set ?_ GE160.out | refine below_set ?_ GE161.out) | exact HB.out)) hb); clear BK160; clear BK161; clear HB; have BK160 := n0_; have BK161 := n1_; have HB := n2_; clear n0_ n1_ n2_; (try clear hb); (try clear hb2); (try clear hk); (try clear hi)))
    go_ret
    exact ⟨by first | rfl | (simp [errW_none, errW_some] <;> rfl) | (simp [*, errW_none, errW_some] <;> rfl), by repeat (first | (with_reducible first | exact HB.out | apply below_alloc | apply pw_below_drewN | apply below_drew1 | refine below_set ?_ GE160.out | refine below_set ?_ GE161.out) | exact HB.out)⟩
  · replace c4 := Bool.eq_false_iff.mpr c4
    subst c4
    have H1 : (some false) = some r := by rw [if_neg (show ¬ (false = true) by decide)] at H; exact H
    clear H
    have H := H1
    clear H1
    obtain rfl := Option.some.inj H
    go_enter Tryz.func21, Tryz.ntmps21
    go_wp2_with (first | ((with_reducible refine gate_dst (N := 2) rfl ?_); refine box_event ?hg (N := 2) ?hd (cs := #[.slice A0_0 l0_0.length c0_0, .bool a0_1]) (t := 38) ?hr ?_; (case hd => rfl); (case hg => rfl); (case hr => first | (go_simp; done) | (go_simp; rfl)); intro gb160 hg w15 hbox hb; have n0_ := Aside0.mk (below_step (by repeat (first | (with_reducible first | exact HB.out | apply below_alloc | apply pw_below_drewN | apply below_drew1) | exact HB.out)) hb); have n1_ := Aside0.mk (hbox); have n2_ := Aside0.mk ((by rw [hg]; exact (below_size (by repeat (first | (with_reducible first | exact HB.out | apply below_alloc | apply pw_below_drewN | apply below_drew1) | exact HB.out))) : w.heap.size ≤ gb160)); have n3_ := Aside0.mk ((by rw [hg]; exact (below_size (by repeat (first | (with_reducible first | exact HB.out | apply below_alloc | apply pw_below_drewN | apply below_drew1) | exact HB.out))) : w.heap.size ≤ gb160)); clear HB; have HB := n0_; have BK160 := n1_; have GW160 := n2_; have GE160 := n3_; clear n0_ n1_ n2_ n3_; clear hb hbox hg) | ((with_reducible refine gate_dst (N := 3) rfl ?_); refine box_event ?hg (N := 3) ?hd (cs := #[.int .i64 a1_0, .int .i64 a1_1, .int .i64 a1_2, .int .i64 a1_3, .int .i64 a1_4, .int .i64 a1_5]) (t := 23) ?hr ?_; (case hd => rfl); (case hg => rfl); (case hr => first | (go_simp; done) | (go_simp; rfl)); intro gb161 hg w16 hbox hb; have n0_ := Aside0.mk (blk_below (g := gb160) (o := .cells #[.slice A0_0 l0_0.length c0_0, .bool a0_1] 38 (0, 0)) (by (with_reducible repeat (first | refine blk_drewN ?_ _ | refine blk_drew ?_ | refine blk_alloc ?_ _)); exact BK160.out) hb); have n1_ := Aside0.mk (below_step (by repeat (first | (with_reducible first | exact HB.out | apply below_alloc | apply pw_below_drewN | apply below_drew1 | refine below_set ?_ GE160.out) | exact HB.out)) hb); have n2_ := Aside0.mk (hbox); have n3_ := Aside0.mk ((by rw [hg]; exact (below_size (by repeat (first | (with_reducible first | exact HB.out | apply below_alloc | apply pw_below_drewN | apply below_drew1 | refine below_set ?_ GE160.out) | exact HB.out))) : w.heap.size ≤ gb161)); have n4_ := Aside0.mk ((by rw [hg]; exact (below_size (by repeat (first | (with_reducible first | exact HB.out | apply below_alloc | apply pw_below_drewN | apply below_drew1 | refine below_set ?_ GE160.out) | exact HB.out))) : w.heap.size ≤ gb161)); have n5_ := Aside0.mk ((by rw [hg]; exact Nat.ne_of_lt (blk_lt (g := gb160) (o := .cells #[.slice A0_0 l0_0.length c0_0, .bool a0_1] 38 (0, 0)) (by (with_reducible repeat (first | refine blk_drewN ?_ _ | refine blk_drew ?_ | refine blk_alloc ?_ _)); exact BK160.out)) : gb160 ≠ gb161)); have n6_ := Aside0.mk ((by rw [hg]; exact Nat.ne_of_gt (blk_lt (g := gb160) (o := .cells #[.slice A0_0 l0_0.length c0_0, .bool a0_1] 38 (0, 0)) (by (with_reducible repeat (first | refine blk_drewN ?_ _ | refine blk_drew ?_ | refine blk_alloc ?_ _)); exact BK160.out)) : gb161 ≠ gb160)); clear BK160; clear HB; have BK160 := n0_; have HB := n1_; have BK161 := n2_; have GW161 := n3_; have GE161 := n4_; have NB160_161 := n5_; have NB161_160 := n6_; clear n0_ n1_ n2_ n3_ n4_ n5_ n6_; clear hb hbox hg; have hnb17 := NB160_161.out; have hnc17 := NB161_160.out; have hcz18_0 : w16.cell? ⟨gb160, 0, none⟩ = some (.slice A0_0 l0_0.length c0_0) := (blk_cell BK160.out 0).trans rfl; have hcz18_1 : w16.cell? ⟨gb160, 1, none⟩ = some (.bool a0_1) := (blk_cell BK160.out 1).trans rfl; have hfz18_0 := blk_frozen BK160.out 0; have hfz18_1 := blk_frozen BK160.out 1) | ((with_reducible refine gate_callee (f := 34) rfl ?_); refine goesL_ (some 6) rfl rfl Tryz.func34 (by kernel_rfl) rfl #[.agg #[.slice A0_0 l0_0.length c0_0, .bool a0_1]] rfl (by (try simp only [List.map_toArray, List.map_cons, List.map_nil]); first | done | rfl | (simp only [List.length_drop, List.length_take]; rfl)) ?_; (with_reducible refine (spec_ExprGood.calls k _ _ l0_0 a0_1 false _ ?side1 ?side2 A3.out).mono ?_); (case side1 => repeat (first | exact (Kd.C_below HR0_0.out HB.out) | (with_reducible refine Kd.C_alloc ?_ _) | (with_reducible refine Kd.C_drewN ?_ _) | (with_reducible refine Kd.C_drew ?_))); (case side2 => exact HC0_0.out); rintro e w19 ⟨rfl, hb⟩; refine ⟨_, rfl, ?_⟩; have n0_ := Aside0.mk (blk_below (g := gb160) (o := .cells #[.slice A0_0 l0_0.length c0_0, .bool a0_1] 38 (0, 0)) (by (with_reducible repeat (first | refine blk_drewN ?_ _ | refine blk_drew ?_ | refine blk_alloc ?_ _)); exact BK160.out) hb); have n1_ := Aside0.mk (blk_below (g := gb161) (o := .cells #[.int .i64 a1_0, .int .i64 a1_1, .int .i64 a1_2, .int .i64 a1_3, .int .i64 a1_4, .int .i64 a1_5] 23 (0, 0)) (by (with_reducible repeat (first | refine blk_drewN ?_ _ | refine blk_drew ?_ | refine blk_alloc ?_ _)); exact BK161.out) hb); have n2_ := Aside0.mk (below_step (by repeat (first | (with_reducible first | exact HB.out | apply below_alloc | apply pw_below_drewN | apply below_drew1 | refine below_set ?_ GE160.out | refine below_set ?_ GE161.out) | exact HB.out)) hb); clear BK160; clear BK161; clear HB; have BK160 := n0_; have BK161 := n1_; have HB := n2_; clear n0_ n1_ n2_; (try clear hb); (try clear hb2); (try clear hk); (try clear hi)))
    go_ret
    exact ⟨by first | rfl | (simp [errW_none, errW_some] <;> rfl) | (simp [*, errW_none, errW_some] <;> rfl), by repeat (first | (with_reducible first | exact HB.out | apply below_alloc | apply pw_below_drewN | apply below_drew1 | refine below_set ?_ GE160.out | refine below_set ?_ GE161.out) | exact HB.out)⟩
end Go.Proofs.YtkhgeonlohafgaaGreatDoor.Core
namespace Go.Proofs.YtkhgeonlohafgaaGreatDoor.Core
open Go.RowKit Go.Proofs.YtkhgeonlohafgaaGreatDoorW.PrintWords Go.Proofs.YtkhgeonlohafgaaGreatDoorW.PrintLast Go.Proofs.YtkhgeonlohafgaaGreatDoorW.PrintMore
attribute [local go_sem] max2_int min2_int max_two min_two max_three min_three max_four min_four   -- for this text's walks alone
set_option linter.unusedVariables false
set_option linter.unusedSimpArgs false
def spec_Decimal.f : Nat → Int → Option (ByteArray)
  | 0, _ => none
  | k + 1, a0 => if a0 < 10 then (if 0 ≤ a0 then (if a0 ≤ (wrap64 (a0 + 1)) then (if (wrap64 (a0 + 1)) ≤ 10 then (some ((⟨#[48, 49, 50, 51, 52, 53, 54, 55, 56, 57]⟩ : ByteArray).extract (a0 : Int).toNat ((wrap64 (a0 + 1)) : Int).toNat)) else (none)) else (none)) else (none)) else ((spec_Decimal.f k (wrap64 (Int.tdiv a0 10))).bind fun t103 => ((spec_Decimal.f k (Int.tmod a0 10)).bind fun t104 => (if t103.size + t104.size ≤ 9223372036854775807 then (some (t103 ++ t104)) else (none))))
set_option maxHeartbeats 8000000 in
set_option maxRecDepth 100000 in
theorem spec_Decimal.calls (k : Nat) : ∀ (a0 : Int) (r : ByteArray) (w : World) (h : spec_Decimal.f k a0 = some r),
    Calls Tryz.prog 16 #[.int .i64 a0] w fun e w' => e = .returned (.string r) ∧ Drawn0 w w' := by
  induction k using Nat.strongRecOn with
  | _ k ih =>
  intro a0 r w h
  cases k with
  | zero => exact absurd h (by simp [spec_Decimal.f])
  | succ k =>
  simp only [spec_Decimal.f] at h
  have H : (if a0 < 10 then (if 0 ≤ a0 then (if a0 ≤ (wrap64 (a0 + 1)) then (if (wrap64 (a0 + 1)) ≤ 10 then (some ((⟨#[48, 49, 50, 51, 52, 53, 54, 55, 56, 57]⟩ : ByteArray).extract (a0 : Int).toNat ((wrap64 (a0 + 1)) : Int).toNat)) else (none)) else (none)) else (none)) else ((spec_Decimal.f k (wrap64 (Int.tdiv a0 10))).bind fun t103 => ((spec_Decimal.f k (Int.tmod a0 10)).bind fun t104 => (if t103.size + t104.size ≤ 9223372036854775807 then (some (t103 ++ t104)) else (none))))) = some r := h
  clear h
  by_cases c2 : a0 < 10
  · rw [if_pos c2] at H
    have c2b0 : decide (a0 < 10) = true := decide_eq_true c2
    clear c2
    by_cases c3 : 0 ≤ a0
    · rw [if_pos c3] at H
      have c3b0 := eq_true c3
      have c3b1 : decide (0 ≤ a0) = true := decide_eq_true c3
      clear c3
      by_cases c4 : a0 ≤ (wrap64 (a0 + 1))
      · rw [if_pos c4] at H
        have c4b0 := eq_true c4
        have c4b1 : decide (a0 ≤ (wrap64 (a0 + 1))) = true := decide_eq_true c4
        by_cases c5 : (wrap64 (a0 + 1)) ≤ 10
        · rw [if_pos c5] at H
          have c5b0 := eq_true c5
          have c5b1 : decide ((wrap64 (a0 + 1)) ≤ 10) = true := decide_eq_true c5
          obtain rfl := Option.some.inj H
          go_enter Tryz.func16, Tryz.ntmps16
          go_wp2
          go_ret
          exact ⟨by first | rfl | (simp; done) | (simp [*]; done), by repeat (first | exact Drawn0.refl _ | apply Drawn0.step)⟩
        · rw [if_neg c5] at H
          exact absurd H (by simp)
      · rw [if_neg c4] at H
        exact absurd H (by simp)
    · rw [if_neg c3] at H
      exact absurd H (by simp)
  · rw [if_neg c2] at H
    have c2b0 : decide (a0 < 10) = false := decide_eq_false c2
    clear c2
    replace H := Option.bind_eq_some_iff.mp H
    obtain ⟨t103, A60, H⟩ := H
    replace H : ((spec_Decimal.f k (Int.tmod a0 10)).bind fun t104 => (if t103.size + t104.size ≤ 9223372036854775807 then (some (t103 ++ t104)) else (none))) = some r := H
    have A6 := Aside0.mk A60
    clear A60
    replace H := Option.bind_eq_some_iff.mp H
    obtain ⟨t104, A70, H⟩ := H
    replace H : (if t103.size + t104.size ≤ 9223372036854775807 then (some (t103 ++ t104)) else (none)) = some r := H
    have A7 := Aside0.mk A70
    clear A70
    by_cases c8 : t103.size + t104.size ≤ 9223372036854775807
    · rw [if_pos c8] at H
      have c8b0 := eq_true c8
      have c8b1 : decide (t103.size + t104.size ≤ 9223372036854775807) = true := decide_eq_true c8
      try have c8b2 : (9223372036854775807 < t103.size + t104.size) = False := eq_false (Nat.not_lt.2 c8)
      obtain rfl := Option.some.inj H
      go_enter Tryz.func16, Tryz.ntmps16
      go_wp2_with (first | ((with_reducible refine gate_callee (f := 16) rfl ?_); refine goesL_ (some 11) rfl rfl Tryz.func16 (by kernel_rfl) rfl #[.int .i64 (wrap64 (Int.tdiv a0 10))] rfl (by (try simp only [List.map_toArray, List.map_cons, List.map_nil]); first | done | rfl | (simp only [List.length_drop, List.length_take]; rfl)) ?_; (with_reducible refine (ih k (by omega) (wrap64 (Int.tdiv a0 10)) t103 _ A6.out).mono ?_); rintro e w' ⟨rfl, ⟨nd, rfl⟩⟩; refine ⟨_, rfl, ?_⟩) | ((with_reducible refine gate_callee (f := 16) rfl ?_); refine goesL_ (some 14) rfl rfl Tryz.func16 (by kernel_rfl) rfl #[.int .i64 (Int.tmod a0 10)] rfl (by (try simp only [List.map_toArray, List.map_cons, List.map_nil]); first | done | rfl | (simp only [List.length_drop, List.length_take]; rfl)) ?_; (with_reducible refine (ih k (by omega) (Int.tmod a0 10) t104 _ A7.out).mono ?_); rintro e w' ⟨rfl, ⟨nd, rfl⟩⟩; refine ⟨_, rfl, ?_⟩))
      go_ret
      exact ⟨by first | rfl | (simp; done) | (simp [*]; done), by repeat (first | exact Drawn0.refl _ | apply Drawn0.step)⟩
    · rw [if_neg c8] at H
      exact absurd H (by simp)
end Go.Proofs.YtkhgeonlohafgaaGreatDoor.Core
namespace Go.Proofs.YtkhgeonlohafgaaGreatDoor.Core
open Go.RowKit Go.Proofs.YtkhgeonlohafgaaGreatDoorW.PrintWords Go.Proofs.YtkhgeonlohafgaaGreatDoorW.PrintLast Go.Proofs.YtkhgeonlohafgaaGreatDoorW.PrintMore
attribute [local go_sem] max2_int min2_int max_two min_two max_three min_three max_four min_four   -- for this text's walks alone
set_option linter.unusedVariables false
set_option linter.unusedSimpArgs false
def spec_ItemText.j0 : Nat → ByteArray → Bool → Bool → Int → Int → Int → Option (ByteArray)
  | 0, _, _, _, _, _, _ => none
  | k + 1, x3, x19, x171000, x171001, x171002, x171003 => if x19 = true then ((spec_Decimal.f k x171002).bind fun t173 => (if 1 + t173.size ≤ 9223372036854775807 then (if x3.size + ((⟨#[45]⟩ : ByteArray) ++ t173).size ≤ 9223372036854775807 then (if x171003 > 1 then ((spec_Decimal.f k x171003).bind fun t174 => (if 1 + t174.size ≤ 9223372036854775807 then (if (x3 ++ ((⟨#[45]⟩ : ByteArray) ++ t173)).size + ((⟨#[47]⟩ : ByteArray) ++ t174).size ≤ 9223372036854775807 then (some ((x3 ++ ((⟨#[45]⟩ : ByteArray) ++ t173)) ++ ((⟨#[47]⟩ : ByteArray) ++ t174))) else (none)) else (none))) else (some (x3 ++ ((⟨#[45]⟩ : ByteArray) ++ t173)))) else (none)) else (none))) else (if x171003 > 1 then ((spec_Decimal.f k x171003).bind fun t175 => (if 1 + t175.size ≤ 9223372036854775807 then (if x3.size + ((⟨#[47]⟩ : ByteArray) ++ t175).size ≤ 9223372036854775807 then (some (x3 ++ ((⟨#[47]⟩ : ByteArray) ++ t175))) else (none)) else (none))) else (some x3))
def spec_ItemText.f (k : Nat) (a0_0 : Bool) (a0_1 : Int) (a0_2 : Int) (a0_3 : Int) : Option (ByteArray) := if a0_0 = true then (if a0_3 > 1 then ((spec_Decimal.f k a0_3).bind fun t171 => (if 1 + t171.size ≤ 9223372036854775807 then (if 1 + ((⟨#[47]⟩ : ByteArray) ++ t171).size ≤ 9223372036854775807 then (some ((⟨#[42]⟩ : ByteArray) ++ ((⟨#[47]⟩ : ByteArray) ++ t171))) else (none)) else (none))) else (some (⟨#[42]⟩ : ByteArray))) else ((spec_Decimal.f k a0_1).bind fun t172 => (if a0_2 > a0_1 then (spec_ItemText.j0 k t172 true a0_0 a0_1 a0_2 a0_3) else (spec_ItemText.j0 k t172 (decide (a0_3 > 1)) a0_0 a0_1 a0_2 a0_3)))
set_option maxHeartbeats 8000000 in
set_option maxRecDepth 100000 in
theorem spec_ItemText.calls (k : Nat) (a0_0 : Bool) (a0_1 : Int) (a0_2 : Int) (a0_3 : Int) (r : ByteArray) (w : World) (h : spec_ItemText.f k a0_0 a0_1 a0_2 a0_3 = some r) :
    Calls Tryz.prog 49 #[.agg #[.bool a0_0, .int .i64 a0_1, .int .i64 a0_2, .int .i64 a0_3]] w fun e w' => e = .returned (.string r) ∧ Below w.heap.size w w' := by
  have hu57 := Tryz.underlying57
  have HB := Aside0.mk (Below.refl w.heap.size w)
  have H : (if a0_0 = true then (if a0_3 > 1 then ((spec_Decimal.f k a0_3).bind fun t171 => (if 1 + t171.size ≤ 9223372036854775807 then (if 1 + ((⟨#[47]⟩ : ByteArray) ++ t171).size ≤ 9223372036854775807 then (some ((⟨#[42]⟩ : ByteArray) ++ ((⟨#[47]⟩ : ByteArray) ++ t171))) else (none)) else (none))) else (some (⟨#[42]⟩ : ByteArray))) else ((spec_Decimal.f k a0_1).bind fun t172 => (if a0_2 > a0_1 then (spec_ItemText.j0 k t172 true a0_0 a0_1 a0_2 a0_3) else (spec_ItemText.j0 k t172 (decide (a0_3 > 1)) a0_0 a0_1 a0_2 a0_3)))) = some r := h
  clear h
  by_cases c2 : a0_0 = true
  · subst c2
    have H1 : (if a0_3 > 1 then ((spec_Decimal.f k a0_3).bind fun t171 => (if 1 + t171.size ≤ 9223372036854775807 then (if 1 + ((⟨#[47]⟩ : ByteArray) ++ t171).size ≤ 9223372036854775807 then (some ((⟨#[42]⟩ : ByteArray) ++ ((⟨#[47]⟩ : ByteArray) ++ t171))) else (none)) else (none))) else (some (⟨#[42]⟩ : ByteArray))) = some r := by rw [if_pos rfl] at H; exact H
    clear H
    have H := H1
    clear H1
    by_cases c3 : a0_3 > 1
    · rw [if_pos c3] at H
      have c3b0 : decide (1 < a0_3) = true := decide_eq_true c3
      clear c3
      replace H := Option.bind_eq_some_iff.mp H
      obtain ⟨t171, A40, H⟩ := H
      replace H : (if 1 + t171.size ≤ 9223372036854775807 then (if 1 + ((⟨#[47]⟩ : ByteArray) ++ t171).size ≤ 9223372036854775807 then (some ((⟨#[42]⟩ : ByteArray) ++ ((⟨#[47]⟩ : ByteArray) ++ t171))) else (none)) else (none)) = some r := H
      have A4 := Aside0.mk A40
      clear A40
      by_cases c5 : 1 + t171.size ≤ 9223372036854775807
      · rw [if_pos c5] at H
        have c5b0 := eq_true c5
        have c5b1 : decide (1 + t171.size ≤ 9223372036854775807) = true := decide_eq_true c5
        try have c5b2 : (9223372036854775807 < 1 + t171.size) = False := eq_false (Nat.not_lt.2 c5)
        by_cases c6 : 1 + ((⟨#[47]⟩ : ByteArray) ++ t171).size ≤ 9223372036854775807
        · rw [if_pos c6] at H
          have c6b0 := eq_true c6
          have c6b1 : decide (1 + ((⟨#[47]⟩ : ByteArray) ++ t171).size ≤ 9223372036854775807) = true := decide_eq_true c6
          try have c6b2 : (9223372036854775807 < 1 + ((⟨#[47]⟩ : ByteArray) ++ t171).size) = False := eq_false (Nat.not_lt.2 c6)
          (try have c6b3 : (9223372036854775807 < 1 + (1 + t171.size)) = False := eq_false (Nat.not_lt.2 (by have h_ := c6; (try simp only [ByteArray.size_append] at h_); exact h_)))
          obtain rfl := Option.some.inj H
          go_enter Tryz.func49, Tryz.ntmps49
          go_wp2_with (first | ((with_reducible refine gate_dst (N := 1) rfl ?_); refine box_event ?hg (N := 1) ?hd (cs := #[.bool true, .int .i64 a0_1, .int .i64 a0_2, .int .i64 a0_3]) (t := 57) ?hr ?_; (case hd => rfl); (case hg => rfl); (case hr => first | (go_simp; done) | (go_simp; rfl)); intro gb170 hg w7 hbox hb; have n0_ := Aside0.mk (below_step (by repeat (first | (with_reducible first | exact HB.out | apply below_alloc | apply pw_below_drewN | apply below_drew1) | exact HB.out)) hb); have n1_ := Aside0.mk (hbox); have n2_ := Aside0.mk ((by rw [hg]; exact (below_size (by repeat (first | (with_reducible first | exact HB.out | apply below_alloc | apply pw_below_drewN | apply below_drew1) | exact HB.out))) : w.heap.size ≤ gb170)); have n3_ := Aside0.mk ((by rw [hg]; exact (below_size (by repeat (first | (with_reducible first | exact HB.out | apply below_alloc | apply pw_below_drewN | apply below_drew1) | exact HB.out))) : w.heap.size ≤ gb170)); clear HB; have HB := n0_; have BK170 := n1_; have GW170 := n2_; have GE170 := n3_; clear n0_ n1_ n2_ n3_; clear hb hbox hg; have hcz8_0 : w7.cell? ⟨gb170, 0, none⟩ = some (.bool true) := (blk_cell BK170.out 0).trans rfl; have hcz8_1 : w7.cell? ⟨gb170, 1, none⟩ = some (.int .i64 a0_1) := (blk_cell BK170.out 1).trans rfl; have hcz8_2 : w7.cell? ⟨gb170, 2, none⟩ = some (.int .i64 a0_2) := (blk_cell BK170.out 2).trans rfl; have hcz8_3 : w7.cell? ⟨gb170, 3, none⟩ = some (.int .i64 a0_3) := (blk_cell BK170.out 3).trans rfl; have hfz8_0 := blk_frozen BK170.out 0; have hfz8_1 := blk_frozen BK170.out 1; have hfz8_2 := blk_frozen BK170.out 2; have hfz8_3 := blk_frozen BK170.out 3) | ((with_reducible refine gate_callee (f := 16) rfl ?_); refine goesL_ (some 32) rfl rfl Tryz.func16 (by kernel_rfl) rfl #[.int .i64 a0_3] rfl (by (try simp only [List.map_toArray, List.map_cons, List.map_nil]); first | done | rfl | (simp only [List.length_drop, List.length_take]; rfl)) ?_; (with_reducible refine (spec_Decimal.calls k a0_3 t171 _ A4.out).mono ?_); rintro e w' ⟨rfl, ⟨nd, rfl⟩⟩; refine ⟨_, rfl, ?_⟩))
          go_ret
          exact ⟨by first | rfl | (simp [errW_none, errW_some] <;> rfl) | (simp [*, errW_none, errW_some] <;> rfl), by repeat (first | (with_reducible first | exact HB.out | apply below_alloc | apply pw_below_drewN | apply below_drew1 | refine below_set ?_ GE170.out) | exact HB.out)⟩
        · rw [if_neg c6] at H
          exact absurd H (by simp)
      · rw [if_neg c5] at H
        exact absurd H (by simp)
    · rw [if_neg c3] at H
      have c3b0 : decide (1 < a0_3) = false := decide_eq_false c3
      clear c3
      obtain rfl := Option.some.inj H
      go_enter Tryz.func49, Tryz.ntmps49
      go_wp2_with (first | ((with_reducible refine gate_dst (N := 1) rfl ?_); refine box_event ?hg (N := 1) ?hd (cs := #[.bool true, .int .i64 a0_1, .int .i64 a0_2, .int .i64 a0_3]) (t := 57) ?hr ?_; (case hd => rfl); (case hg => rfl); (case hr => first | (go_simp; done) | (go_simp; rfl)); intro gb170 hg w9 hbox hb; have n0_ := Aside0.mk (below_step (by repeat (first | (with_reducible first | exact HB.out | apply below_alloc | apply pw_below_drewN | apply below_drew1) | exact HB.out)) hb); have n1_ := Aside0.mk (hbox); have n2_ := Aside0.mk ((by rw [hg]; exact (below_size (by repeat (first | (with_reducible first | exact HB.out | apply below_alloc | apply pw_below_drewN | apply below_drew1) | exact HB.out))) : w.heap.size ≤ gb170)); have n3_ := Aside0.mk ((by rw [hg]; exact (below_size (by repeat (first | (with_reducible first | exact HB.out | apply below_alloc | apply pw_below_drewN | apply below_drew1) | exact HB.out))) : w.heap.size ≤ gb170)); clear HB; have HB := n0_; have BK170 := n1_; have GW170 := n2_; have GE170 := n3_; clear n0_ n1_ n2_ n3_; clear hb hbox hg; have hcz10_0 : w9.cell? ⟨gb170, 0, none⟩ = some (.bool true) := (blk_cell BK170.out 0).trans rfl; have hcz10_1 : w9.cell? ⟨gb170, 1, none⟩ = some (.int .i64 a0_1) := (blk_cell BK170.out 1).trans rfl; have hcz10_2 : w9.cell? ⟨gb170, 2, none⟩ = some (.int .i64 a0_2) := (blk_cell BK170.out 2).trans rfl; have hcz10_3 : w9.cell? ⟨gb170, 3, none⟩ = some (.int .i64 a0_3) := (blk_cell BK170.out 3).trans rfl; have hfz10_0 := blk_frozen BK170.out 0; have hfz10_1 := blk_frozen BK170.out 1; have hfz10_2 := blk_frozen BK170.out 2; have hfz10_3 := blk_frozen BK170.out 3))
      go_ret
      exact ⟨by first | rfl | (simp [errW_none, errW_some] <;> rfl) | (simp [*, errW_none, errW_some] <;> rfl), by repeat (first | (with_reducible first | exact HB.out | apply below_alloc | apply pw_below_drewN | apply below_drew1 | refine below_set ?_ GE170.out) | exact HB.out)⟩
  · replace c2 := Bool.eq_false_iff.mpr c2
    subst c2
    have H1 : ((spec_Decimal.f k a0_1).bind fun t172 => (if a0_2 > a0_1 then (spec_ItemText.j0 k t172 true false a0_1 a0_2 a0_3) else (spec_ItemText.j0 k t172 (decide (a0_3 > 1)) false a0_1 a0_2 a0_3))) = some r := by rw [if_neg (show ¬ (false = true) by decide)] at H; exact H
    clear H
    have H := H1
    clear H1
    replace H := Option.bind_eq_some_iff.mp H
    obtain ⟨t172, A110, H⟩ := H
    replace H : (if a0_2 > a0_1 then (spec_ItemText.j0 k t172 true false a0_1 a0_2 a0_3) else (spec_ItemText.j0 k t172 (decide (a0_3 > 1)) false a0_1 a0_2 a0_3)) = some r := H
    have A11 := Aside0.mk A110
    clear A110
    have HC12 := Aside0.mk H
    clear H
    go_enter Tryz.func49, Tryz.ntmps49
    go_upto_region 4 with (first | ((with_reducible refine gate_dst (N := 1) rfl ?_); refine box_event ?hg (N := 1) ?hd (cs := #[.bool false, .int .i64 a0_1, .int .i64 a0_2, .int .i64 a0_3]) (t := 57) ?hr ?_; (case hd => rfl); (case hg => rfl); (case hr => first | (go_simp; done) | (go_simp; rfl)); intro gb170 hg w13 hbox hb; have n0_ := Aside0.mk (below_step (by repeat (first | (with_reducible first | exact HB.out | apply below_alloc | apply pw_below_drewN | apply below_drew1) | exact HB.out)) hb); have n1_ := Aside0.mk (hbox); have n2_ := Aside0.mk ((by rw [hg]; exact (below_size (by repeat (first | (with_reducible first | exact HB.out | apply below_alloc | apply pw_below_drewN | apply below_drew1) | exact HB.out))) : w.heap.size ≤ gb170)); have n3_ := Aside0.mk ((by rw [hg]; exact (below_size (by repeat (first | (with_reducible first | exact HB.out | apply below_alloc | apply pw_below_drewN | apply below_drew1) | exact HB.out))) : w.heap.size ≤ gb170)); clear HB; have HB := n0_; have BK170 := n1_; have GW170 := n2_; have GE170 := n3_; clear n0_ n1_ n2_ n3_; clear hb hbox hg; have hcz14_0 : w13.cell? ⟨gb170, 0, none⟩ = some (.bool false) := (blk_cell BK170.out 0).trans rfl; have hcz14_1 : w13.cell? ⟨gb170, 1, none⟩ = some (.int .i64 a0_1) := (blk_cell BK170.out 1).trans rfl; have hcz14_2 : w13.cell? ⟨gb170, 2, none⟩ = some (.int .i64 a0_2) := (blk_cell BK170.out 2).trans rfl; have hcz14_3 : w13.cell? ⟨gb170, 3, none⟩ = some (.int .i64 a0_3) := (blk_cell BK170.out 3).trans rfl; have hfz14_0 := blk_frozen BK170.out 0; have hfz14_1 := blk_frozen BK170.out 1; have hfz14_2 := blk_frozen BK170.out 2; have hfz14_3 := blk_frozen BK170.out 3) | ((with_reducible refine gate_callee (f := 16) rfl ?_); refine goesL_ (some 9) rfl rfl Tryz.func16 (by kernel_rfl) rfl #[.int .i64 a0_1] rfl (by (try simp only [List.map_toArray, List.map_cons, List.map_nil]); first | done | rfl | (simp only [List.length_drop, List.length_take]; rfl)) ?_; (with_reducible refine (spec_Decimal.calls k a0_1 t172 _ A11.out).mono ?_); rintro e w' ⟨rfl, ⟨nd, rfl⟩⟩; refine ⟨_, rfl, ?_⟩))
    (try simp only [Act.put, List.setIfInBounds_toArray, List.set_cons_zero, List.set_cons_succ])
    go_cut [19] (fun v19 wc => ∃ (kq : Nat) (x19_11 : Bool), v19 = .bool x19_11 ∧ Aside0 (spec_ItemText.j0 kq t172 x19_11 false a0_1 a0_2 a0_3 = some r) ∧ Aside0 (kq ≤ k) ∧ Aside0 (wc.heap[gb170]? = some (.cells #[.bool false, .int .i64 a0_1, .int .i64 a0_2, .int .i64 a0_3] 57 (0, 0))) ∧ Aside0 (Below w.heap.size w wc))
    case first =>
      have H := HC12.out
      clear HC12
      by_cases c15 : a0_2 > a0_1
      · rw [if_pos c15] at H
        have c15b0 : decide (a0_1 < a0_2) = true := decide_eq_true c15
        clear c15
        (first | rw [c15b0] | (simp only [i64_w, i32_w]; rw [c15b0]) | skip)
        have H' := Aside0.mk H
        clear H
        have hcz16_0 : w13.cell? ⟨gb170, 0, none⟩ = some (.bool false) := (blk_cell BK170.out 0).trans rfl
        have hcz16_1 : w13.cell? ⟨gb170, 1, none⟩ = some (.int .i64 a0_1) := (blk_cell BK170.out 1).trans rfl
        have hcz16_2 : w13.cell? ⟨gb170, 2, none⟩ = some (.int .i64 a0_2) := (blk_cell BK170.out 2).trans rfl
        have hcz16_3 : w13.cell? ⟨gb170, 3, none⟩ = some (.int .i64 a0_3) := (blk_cell BK170.out 3).trans rfl
        have hfz16_0 := blk_frozen BK170.out 0
        have hfz16_1 := blk_frozen BK170.out 1
        have hfz16_2 := blk_frozen BK170.out 2
        have hfz16_3 := blk_frozen BK170.out 3
        go_wp2
        go_meet
        case rel => exact ⟨_, (true), (by first | rfl | (simp; done) | (simp [*]; done)), H', ⟨by first | omega | exact Nat.le_refl _⟩, ⟨by (with_reducible repeat (first | refine blk_drewN ?_ _ | refine blk_drew ?_ | refine blk_alloc ?_ _)); exact BK170.out⟩, ⟨by repeat (first | (with_reducible first | exact HB.out | apply below_alloc | apply pw_below_drewN | apply below_drew1 | refine below_set ?_ GE170.out) | exact HB.out)⟩⟩
      · rw [if_neg c15] at H
        have c15b0 : decide (a0_1 < a0_2) = false := decide_eq_false c15
        clear c15
        (first | rw [c15b0] | (simp only [i64_w, i32_w]; rw [c15b0]) | skip)
        have H' := Aside0.mk H
        clear H
        have hcz17_0 : w13.cell? ⟨gb170, 0, none⟩ = some (.bool false) := (blk_cell BK170.out 0).trans rfl
        have hcz17_1 : w13.cell? ⟨gb170, 1, none⟩ = some (.int .i64 a0_1) := (blk_cell BK170.out 1).trans rfl
        have hcz17_2 : w13.cell? ⟨gb170, 2, none⟩ = some (.int .i64 a0_2) := (blk_cell BK170.out 2).trans rfl
        have hcz17_3 : w13.cell? ⟨gb170, 3, none⟩ = some (.int .i64 a0_3) := (blk_cell BK170.out 3).trans rfl
        have hfz17_0 := blk_frozen BK170.out 0
        have hfz17_1 := blk_frozen BK170.out 1
        have hfz17_2 := blk_frozen BK170.out 2
        have hfz17_3 := blk_frozen BK170.out 3
        go_wp2
        go_meet
        case rel => exact ⟨_, (decide (a0_3 > 1)), (by first | rfl | (simp; done) | (simp [*]; done)), H', ⟨by first | omega | exact Nat.le_refl _⟩, ⟨by (with_reducible repeat (first | refine blk_drewN ?_ _ | refine blk_drew ?_ | refine blk_alloc ?_ _)); exact BK170.out⟩, ⟨by repeat (first | (with_reducible first | exact HB.out | apply below_alloc | apply pw_below_drewN | apply below_drew1 | refine below_set ?_ GE170.out) | exact HB.out)⟩⟩
    case rest =>
      clear HC12
      try clear c1
      try clear c2
      try clear p2
      try clear c3
      try clear c3b0
      try clear c4
      try clear c5
      try clear c5b0
      try clear c5b1
      try clear c5b2
      try clear c6
      try clear c6b0
      try clear c6b1
      try clear c6b2
      try clear c15
      try clear c15b0
      try clear c16
      try clear hcz10_0
      try clear hcz10_1
      try clear hcz10_2
      try clear hcz10_3
      try clear hcz14_0
      try clear hcz14_1
      try clear hcz14_2
      try clear hcz14_3
      try clear hcz16_0
      try clear hcz16_1
      try clear hcz16_2
      try clear hcz16_3
      try clear hcz17_0
      try clear hcz17_1
      try clear hcz17_2
      try clear hcz17_3
      try clear hcz8_0
      try clear hcz8_1
      try clear hcz8_2
      try clear hcz8_3
      try clear hfz10_0
      try clear hfz10_1
      try clear hfz10_2
      try clear hfz10_3
      try clear hfz14_0
      try clear hfz14_1
      try clear hfz14_2
      try clear hfz14_3
      try clear hfz16_0
      try clear hfz16_1
      try clear hfz16_2
      try clear hfz16_3
      try clear hfz17_0
      try clear hfz17_1
      try clear hfz17_2
      try clear hfz17_3
      try clear hfz8_0
      try clear hfz8_1
      try clear hfz8_2
      try clear hfz8_3
      obtain ⟨kq, x19_11, rfl, HA, HJ11, BK170, HB⟩ := hcut
      cases kq with
      | zero => exact absurd HA.out (by simp [spec_ItemText.j0])
      | succ kj11 =>
        have H := HA.out
        clear HA
        simp only [spec_ItemText.j0] at H
        by_cases c18 : x19_11 = true
        · subst c18
          have H1 : ((spec_Decimal.f kj11 a0_2).bind fun t173 => (if 1 + t173.size ≤ 9223372036854775807 then (if t172.size + ((⟨#[45]⟩ : ByteArray) ++ t173).size ≤ 9223372036854775807 then (if a0_3 > 1 then ((spec_Decimal.f kj11 a0_3).bind fun t174 => (if 1 + t174.size ≤ 9223372036854775807 then (if (t172 ++ ((⟨#[45]⟩ : ByteArray) ++ t173)).size + ((⟨#[47]⟩ : ByteArray) ++ t174).size ≤ 9223372036854775807 then (some ((t172 ++ ((⟨#[45]⟩ : ByteArray) ++ t173)) ++ ((⟨#[47]⟩ : ByteArray) ++ t174))) else (none)) else (none))) else (some (t172 ++ ((⟨#[45]⟩ : ByteArray) ++ t173)))) else (none)) else (none))) = some r := by rw [if_pos rfl] at H; exact H
          clear H
          have H := H1
          clear H1
          replace H := Option.bind_eq_some_iff.mp H
          obtain ⟨t173, A190, H⟩ := H
          replace H : (if 1 + t173.size ≤ 9223372036854775807 then (if t172.size + ((⟨#[45]⟩ : ByteArray) ++ t173).size ≤ 9223372036854775807 then (if a0_3 > 1 then ((spec_Decimal.f kj11 a0_3).bind fun t174 => (if 1 + t174.size ≤ 9223372036854775807 then (if (t172 ++ ((⟨#[45]⟩ : ByteArray) ++ t173)).size + ((⟨#[47]⟩ : ByteArray) ++ t174).size ≤ 9223372036854775807 then (some ((t172 ++ ((⟨#[45]⟩ : ByteArray) ++ t173)) ++ ((⟨#[47]⟩ : ByteArray) ++ t174))) else (none)) else (none))) else (some (t172 ++ ((⟨#[45]⟩ : ByteArray) ++ t173)))) else (none)) else (none)) = some r := H
          have A19 := Aside0.mk A190
          clear A190
          by_cases c20 : 1 + t173.size ≤ 9223372036854775807
          · rw [if_pos c20] at H
            have c20b0 := eq_true c20
            have c20b1 : decide (1 + t173.size ≤ 9223372036854775807) = true := decide_eq_true c20
            try have c20b2 : (9223372036854775807 < 1 + t173.size) = False := eq_false (Nat.not_lt.2 c20)
            by_cases c21 : t172.size + ((⟨#[45]⟩ : ByteArray) ++ t173).size ≤ 9223372036854775807
            · rw [if_pos c21] at H
              have c21b0 := eq_true c21
              have c21b1 : decide (t172.size + ((⟨#[45]⟩ : ByteArray) ++ t173).size ≤ 9223372036854775807) = true := decide_eq_true c21
              try have c21b2 : (9223372036854775807 < t172.size + ((⟨#[45]⟩ : ByteArray) ++ t173).size) = False := eq_false (Nat.not_lt.2 c21)
              (try have c21b3 : (9223372036854775807 < t172.size + (1 + t173.size)) = False := eq_false (Nat.not_lt.2 (by have h_ := c21; (try simp only [ByteArray.size_append] at h_); exact h_)))
              by_cases c22 : a0_3 > 1
              · rw [if_pos c22] at H
                have c22b0 : decide (1 < a0_3) = true := decide_eq_true c22
                clear c22
                replace H := Option.bind_eq_some_iff.mp H
                obtain ⟨t174, A230, H⟩ := H
                replace H : (if 1 + t174.size ≤ 9223372036854775807 then (if (t172 ++ ((⟨#[45]⟩ : ByteArray) ++ t173)).size + ((⟨#[47]⟩ : ByteArray) ++ t174).size ≤ 9223372036854775807 then (some ((t172 ++ ((⟨#[45]⟩ : ByteArray) ++ t173)) ++ ((⟨#[47]⟩ : ByteArray) ++ t174))) else (none)) else (none)) = some r := H
                have A23 := Aside0.mk A230
                clear A230
                by_cases c24 : 1 + t174.size ≤ 9223372036854775807
                · rw [if_pos c24] at H
                  have c24b0 := eq_true c24
                  have c24b1 : decide (1 + t174.size ≤ 9223372036854775807) = true := decide_eq_true c24
                  try have c24b2 : (9223372036854775807 < 1 + t174.size) = False := eq_false (Nat.not_lt.2 c24)
                  by_cases c25 : (t172 ++ ((⟨#[45]⟩ : ByteArray) ++ t173)).size + ((⟨#[47]⟩ : ByteArray) ++ t174).size ≤ 9223372036854775807
                  · rw [if_pos c25] at H
                    have c25b0 := eq_true c25
                    have c25b1 : decide ((t172 ++ ((⟨#[45]⟩ : ByteArray) ++ t173)).size + ((⟨#[47]⟩ : ByteArray) ++ t174).size ≤ 9223372036854775807) = true := decide_eq_true c25
                    try have c25b2 : (9223372036854775807 < (t172 ++ ((⟨#[45]⟩ : ByteArray) ++ t173)).size + ((⟨#[47]⟩ : ByteArray) ++ t174).size) = False := eq_false (Nat.not_lt.2 c25)
                    (try have c25b3 : (9223372036854775807 < (t172.size + (1 + t173.size)) + (1 + t174.size)) = False := eq_false (Nat.not_lt.2 (by have h_ := c25; (try simp only [ByteArray.size_append] at h_); exact h_)))
                    obtain rfl := Option.some.inj H
                    have hcz26_0 : wc.cell? ⟨gb170, 0, none⟩ = some (.bool false) := (blk_cell BK170.out 0).trans rfl
                    have hcz26_1 : wc.cell? ⟨gb170, 1, none⟩ = some (.int .i64 a0_1) := (blk_cell BK170.out 1).trans rfl
                    have hcz26_2 : wc.cell? ⟨gb170, 2, none⟩ = some (.int .i64 a0_2) := (blk_cell BK170.out 2).trans rfl
                    have hcz26_3 : wc.cell? ⟨gb170, 3, none⟩ = some (.int .i64 a0_3) := (blk_cell BK170.out 3).trans rfl
                    have hfz26_0 := blk_frozen BK170.out 0
                    have hfz26_1 := blk_frozen BK170.out 1
                    have hfz26_2 := blk_frozen BK170.out 2
                    have hfz26_3 := blk_frozen BK170.out 3
                    go_wp2_with (first | ((with_reducible refine gate_callee (f := 16) rfl ?_); refine goesL_ (some 23) rfl rfl Tryz.func16 (by kernel_rfl) rfl #[.int .i64 a0_2] rfl (by (try simp only [List.map_toArray, List.map_cons, List.map_nil]); first | done | rfl | (simp only [List.length_drop, List.length_take]; rfl)) ?_; (with_reducible refine (spec_Decimal.calls kj11 a0_2 t173 _ A19.out).mono ?_); rintro e w' ⟨rfl, ⟨nd, rfl⟩⟩; refine ⟨_, rfl, ?_⟩) | ((with_reducible refine gate_callee (f := 16) rfl ?_); refine goesL_ (some 32) rfl rfl Tryz.func16 (by kernel_rfl) rfl #[.int .i64 a0_3] rfl (by (try simp only [List.map_toArray, List.map_cons, List.map_nil]); first | done | rfl | (simp only [List.length_drop, List.length_take]; rfl)) ?_; (with_reducible refine (spec_Decimal.calls kj11 a0_3 t174 _ A23.out).mono ?_); rintro e w' ⟨rfl, ⟨nd, rfl⟩⟩; refine ⟨_, rfl, ?_⟩))
                    go_ret
                    exact ⟨by first | rfl | (simp [errW_none, errW_some] <;> rfl) | (simp [*, errW_none, errW_some] <;> rfl), by repeat (first | (with_reducible first | exact HB.out | apply below_alloc | apply pw_below_drewN | apply below_drew1 | refine below_set ?_ GE170.out) | exact HB.out)⟩
                  · rw [if_neg c25] at H
                    exact absurd H (by simp)
                · rw [if_neg c24] at H
                  exact absurd H (by simp)
              · rw [if_neg c22] at H
                have c22b0 : decide (1 < a0_3) = false := decide_eq_false c22
                clear c22
                obtain rfl := Option.some.inj H
                have hcz27_0 : wc.cell? ⟨gb170, 0, none⟩ = some (.bool false) := (blk_cell BK170.out 0).trans rfl
                have hcz27_1 : wc.cell? ⟨gb170, 1, none⟩ = some (.int .i64 a0_1) := (blk_cell BK170.out 1).trans rfl
                have hcz27_2 : wc.cell? ⟨gb170, 2, none⟩ = some (.int .i64 a0_2) := (blk_cell BK170.out 2).trans rfl
                have hcz27_3 : wc.cell? ⟨gb170, 3, none⟩ = some (.int .i64 a0_3) := (blk_cell BK170.out 3).trans rfl
                have hfz27_0 := blk_frozen BK170.out 0
                have hfz27_1 := blk_frozen BK170.out 1
                have hfz27_2 := blk_frozen BK170.out 2
                have hfz27_3 := blk_frozen BK170.out 3
                go_wp2_with (first | ((with_reducible refine gate_callee (f := 16) rfl ?_); refine goesL_ (some 23) rfl rfl Tryz.func16 (by kernel_rfl) rfl #[.int .i64 a0_2] rfl (by (try simp only [List.map_toArray, List.map_cons, List.map_nil]); first | done | rfl | (simp only [List.length_drop, List.length_take]; rfl)) ?_; (with_reducible refine (spec_Decimal.calls kj11 a0_2 t173 _ A19.out).mono ?_); rintro e w' ⟨rfl, ⟨nd, rfl⟩⟩; refine ⟨_, rfl, ?_⟩))
                go_ret
                exact ⟨by first | rfl | (simp [errW_none, errW_some] <;> rfl) | (simp [*, errW_none, errW_some] <;> rfl), by repeat (first | (with_reducible first | exact HB.out | apply below_alloc | apply pw_below_drewN | apply below_drew1 | refine below_set ?_ GE170.out) | exact HB.out)⟩
            · rw [if_neg c21] at H
              exact absurd H (by simp)
          · rw [if_neg c20] at H
            exact absurd H (by simp)
        · replace c18 := Bool.eq_false_iff.mpr c18
          subst c18
          have H1 : (if a0_3 > 1 then ((spec_Decimal.f kj11 a0_3).bind fun t175 => (if 1 + t175.size ≤ 9223372036854775807 then (if t172.size + ((⟨#[47]⟩ : ByteArray) ++ t175).size ≤ 9223372036854775807 then (some (t172 ++ ((⟨#[47]⟩ : ByteArray) ++ t175))) else (none)) else (none))) else (some t172)) = some r := by rw [if_neg (show ¬ (false = true) by decide)] at H; exact H
          clear H
          have H := H1
          clear H1
          by_cases c28 : a0_3 > 1
          · rw [if_pos c28] at H
            have c28b0 : decide (1 < a0_3) = true := decide_eq_true c28
            clear c28
            replace H := Option.bind_eq_some_iff.mp H
            obtain ⟨t175, A290, H⟩ := H
            replace H : (if 1 + t175.size ≤ 9223372036854775807 then (if t172.size + ((⟨#[47]⟩ : ByteArray) ++ t175).size ≤ 9223372036854775807 then (some (t172 ++ ((⟨#[47]⟩ : ByteArray) ++ t175))) else (none)) else (none)) = some r := H
            have A29 := Aside0.mk A290
            clear A290
            by_cases c30 : 1 + t175.size ≤ 9223372036854775807
            · rw [if_pos c30] at H
              have c30b0 := eq_true c30
              have c30b1 : decide (1 + t175.size ≤ 9223372036854775807) = true := decide_eq_true c30
              try have c30b2 : (9223372036854775807 < 1 + t175.size) = False := eq_false (Nat.not_lt.2 c30)
              by_cases c31 : t172.size + ((⟨#[47]⟩ : ByteArray) ++ t175).size ≤ 9223372036854775807
              · rw [if_pos c31] at H
                have c31b0 := eq_true c31
                have c31b1 : decide (t172.size + ((⟨#[47]⟩ : ByteArray) ++ t175).size ≤ 9223372036854775807) = true := decide_eq_true c31
                try have c31b2 : (9223372036854775807 < t172.size + ((⟨#[47]⟩ : ByteArray) ++ t175).size) = False := eq_false (Nat.not_lt.2 c31)
                (try have c31b3 : (9223372036854775807 < t172.size + (1 + t175.size)) = False := eq_false (Nat.not_lt.2 (by have h_ := c31; (try simp only [ByteArray.size_append] at h_); exact h_)))
                obtain rfl := Option.some.inj H
                have hcz32_0 : wc.cell? ⟨gb170, 0, none⟩ = some (.bool false) := (blk_cell BK170.out 0).trans rfl
                have hcz32_1 : wc.cell? ⟨gb170, 1, none⟩ = some (.int .i64 a0_1) := (blk_cell BK170.out 1).trans rfl
                have hcz32_2 : wc.cell? ⟨gb170, 2, none⟩ = some (.int .i64 a0_2) := (blk_cell BK170.out 2).trans rfl
                have hcz32_3 : wc.cell? ⟨gb170, 3, none⟩ = some (.int .i64 a0_3) := (blk_cell BK170.out 3).trans rfl
                have hfz32_0 := blk_frozen BK170.out 0
                have hfz32_1 := blk_frozen BK170.out 1
                have hfz32_2 := blk_frozen BK170.out 2
                have hfz32_3 := blk_frozen BK170.out 3
                go_wp2_with (first | ((with_reducible refine gate_callee (f := 16) rfl ?_); refine goesL_ (some 32) rfl rfl Tryz.func16 (by kernel_rfl) rfl #[.int .i64 a0_3] rfl (by (try simp only [List.map_toArray, List.map_cons, List.map_nil]); first | done | rfl | (simp only [List.length_drop, List.length_take]; rfl)) ?_; (with_reducible refine (spec_Decimal.calls kj11 a0_3 t175 _ A29.out).mono ?_); rintro e w' ⟨rfl, ⟨nd, rfl⟩⟩; refine ⟨_, rfl, ?_⟩))
                go_ret
                exact ⟨by first | rfl | (simp [errW_none, errW_some] <;> rfl) | (simp [*, errW_none, errW_some] <;> rfl), by repeat (first | (with_reducible first | exact HB.out | apply below_alloc | apply pw_below_drewN | apply below_drew1 | refine below_set ?_ GE170.out) | exact HB.out)⟩
              · rw [if_neg c31] at H
                exact absurd H (by simp)
            · rw [if_neg c30] at H
              exact absurd H (by simp)
          · rw [if_neg c28] at H
            have c28b0 : decide (1 < a0_3) = false := decide_eq_false c28
            clear c28
            obtain rfl := Option.some.inj H
            have hcz33_0 : wc.cell? ⟨gb170, 0, none⟩ = some (.bool false) := (blk_cell BK170.out 0).trans rfl
            have hcz33_1 : wc.cell? ⟨gb170, 1, none⟩ = some (.int .i64 a0_1) := (blk_cell BK170.out 1).trans rfl
            have hcz33_2 : wc.cell? ⟨gb170, 2, none⟩ = some (.int .i64 a0_2) := (blk_cell BK170.out 2).trans rfl
            have hcz33_3 : wc.cell? ⟨gb170, 3, none⟩ = some (.int .i64 a0_3) := (blk_cell BK170.out 3).trans rfl
            have hfz33_0 := blk_frozen BK170.out 0
            have hfz33_1 := blk_frozen BK170.out 1
            have hfz33_2 := blk_frozen BK170.out 2
            have hfz33_3 := blk_frozen BK170.out 3
            go_wp2
            go_ret
            exact ⟨by first | rfl | (simp [errW_none, errW_some] <;> rfl) | (simp [*, errW_none, errW_some] <;> rfl), by repeat (first | (with_reducible first | exact HB.out | apply below_alloc | apply pw_below_drewN | apply below_drew1 | refine below_set ?_ GE170.out) | exact HB.out)⟩
end Go.Proofs.YtkhgeonlohafgaaGreatDoor.Core
namespace Go.Proofs.YtkhgeonlohafgaaGreatDoor.Core
open Go.RowKit Go.Proofs.YtkhgeonlohafgaaGreatDoorW.PrintWords Go.Proofs.YtkhgeonlohafgaaGreatDoorW.PrintLast Go.Proofs.YtkhgeonlohafgaaGreatDoorW.PrintMore
attribute [local go_sem] max2_int min2_int max_two min_two max_three min_three max_four min_four   -- for this text's walks alone
set_option linter.unusedVariables false
set_option linter.unusedSimpArgs false
def spec_FieldText.l0 : Nat → ByteArray → List (S57) → Int → Int → Option (ByteArray)
  | 0, _, _, _, _ => none
  | k + 1, x3, x6, x7, x8 => if x8 < x7 then (if 0 ≤ x8 then (if x8 < (x6.length : Int) then (if x8 > 0 then (if x3.size + 1 ≤ 9223372036854775807 then ((spec_ItemText.f k ((rd_T57 x6 x8).f0) ((rd_T57 x6 x8).f1) ((rd_T57 x6 x8).f2) ((rd_T57 x6 x8).f3)).bind fun t178 => (if (x3 ++ (⟨#[44]⟩ : ByteArray)).size + t178.size ≤ 9223372036854775807 then (spec_FieldText.l0 k ((x3 ++ (⟨#[44]⟩ : ByteArray)) ++ t178) x6 x7 (wrap64 (x8 + 1))) else (none))) else (none)) else ((spec_ItemText.f k ((rd_T57 x6 x8).f0) ((rd_T57 x6 x8).f1) ((rd_T57 x6 x8).f2) ((rd_T57 x6 x8).f3)).bind fun t179 => (if x3.size + t179.size ≤ 9223372036854775807 then (spec_FieldText.l0 k (x3 ++ t179) x6 x7 (wrap64 (x8 + 1))) else (none)))) else (none)) else (none)) else (some x3)
def spec_FieldText.f (k : Nat) (l0 : List (S57)) : Option (ByteArray) := spec_FieldText.l0 k (⟨#[]⟩ : ByteArray) l0 (l0.length : Int) 0
set_option maxHeartbeats 8000000 in
set_option maxRecDepth 100000 in
theorem spec_FieldText.calls (k : Nat) (A0 : Option Addr) (c0 : Nat) (l0 : List (S57)) (r : ByteArray) (w : World) (hr0 : Kd.C k57 w A0 l0.length l0) (hc0 : l0.length ≤ c0) (h : spec_FieldText.f k l0 = some r) :
    Calls Tryz.prog 35 #[.slice A0 l0.length c0] w fun e w' => e = .returned (.string r) ∧ Below w.heap.size w w' := by
  have hu57 := Tryz.underlying57
  have HR0 := Aside0.mk hr0
  have HC0 := Aside0.mk hc0
  clear hr0 hc0
  have HB := Aside0.mk (Below.refl w.heap.size w)
  have H : (spec_FieldText.l0 k (⟨#[]⟩ : ByteArray) l0 (l0.length : Int) 0) = some r := h
  clear h
  have H' := Aside0.mk H
  clear H
  go_enter Tryz.func35, Tryz.ntmps35
  go_wp2
  go_loopg [3, 8] k (fun kq v3 v8 w' => ∃ (x3_1 : ByteArray) (x8_1 : Int), v3 = .string x3_1 ∧ v8 = .int .i64 x8_1 ∧ Aside0 (spec_FieldText.l0 kq x3_1 l0 (l0.length : Int) x8_1 = some r) ∧ Aside0 (kq ≤ k) ∧ Aside0 (Below w.heap.size w w'))
  case atStart => exact ⟨((⟨#[]⟩ : ByteArray)), (0), (by first | rfl | (simp; done) | (simp [*]; done)), (by first | rfl | (simp; done) | (simp [*]; done)), H', ⟨Nat.le_refl _⟩, ⟨by repeat (first | (with_reducible first | exact HB.out | apply below_alloc | apply pw_below_drewN | apply below_drew1) | exact HB.out)⟩⟩
  case round =>
    clear H'
    obtain ⟨x3_1, x8_1, rfl, rfl, HA, HK1, HB⟩ := hrel
    cases gk with
    | zero => exact absurd HA.out (by simp [spec_FieldText.l0])
    | succ k1 =>
      have H := HA.out
      clear HA
      simp only [spec_FieldText.l0] at H
      by_cases c2 : x8_1 < (l0.length : Int)
      · rw [if_pos c2] at H
        have c2b0 : decide (x8_1 < (l0.length : Int)) = true := decide_eq_true c2
        clear c2
        by_cases c3 : 0 ≤ x8_1
        · rw [if_pos c3] at H
          have c3b0 : decide (0 ≤ x8_1) = true := decide_eq_true c3
          clear c3
          by_cases c4 : x8_1 < (l0.length : Int)
          · rw [if_pos c4] at H
            have c4b0 : decide (x8_1 < (l0.length : Int)) = true := decide_eq_true c4
            clear c4
            by_cases c5 : x8_1 > 0
            · rw [if_pos c5] at H
              have c5b0 : decide (0 < x8_1) = true := decide_eq_true c5
              clear c5
              by_cases c6 : x3_1.size + 1 ≤ 9223372036854775807
              · rw [if_pos c6] at H
                have c6b0 := eq_true c6
                have c6b1 : decide (x3_1.size + 1 ≤ 9223372036854775807) = true := decide_eq_true c6
                try have c6b2 : (9223372036854775807 < x3_1.size + 1) = False := eq_false (Nat.not_lt.2 c6)
                replace H := Option.bind_eq_some_iff.mp H
                obtain ⟨t178, A70, H⟩ := H
                replace H : (if (x3_1 ++ (⟨#[44]⟩ : ByteArray)).size + t178.size ≤ 9223372036854775807 then (spec_FieldText.l0 k1 ((x3_1 ++ (⟨#[44]⟩ : ByteArray)) ++ t178) l0 (l0.length : Int) (wrap64 (x8_1 + 1))) else (none)) = some r := H
                have A7 := Aside0.mk A70
                clear A70
                by_cases c8 : (x3_1 ++ (⟨#[44]⟩ : ByteArray)).size + t178.size ≤ 9223372036854775807
                · rw [if_pos c8] at H
                  have c8b0 := eq_true c8
                  have c8b1 : decide ((x3_1 ++ (⟨#[44]⟩ : ByteArray)).size + t178.size ≤ 9223372036854775807) = true := decide_eq_true c8
                  try have c8b2 : (9223372036854775807 < (x3_1 ++ (⟨#[44]⟩ : ByteArray)).size + t178.size) = False := eq_false (Nat.not_lt.2 c8)
                  (try have c8b3 : (9223372036854775807 < (x3_1.size + 1) + t178.size) = False := eq_false (Nat.not_lt.2 (by have h_ := c8; (try simp only [ByteArray.size_append] at h_); exact h_)))
                  have H' := Aside0.mk H
                  clear H
                  have p176 : 0 ≤ (x8_1 : Int) := of_decide_eq_true (by first | (with_reducible assumption) | assumption)
                  have q176 : x8_1 < (l0.length : Int) := of_decide_eq_true (by first | (with_reducible assumption) | assumption)
                  obtain ⟨ad176, e176, hx176_0, hx176_1, hx176_2, hx176_3⟩ := at_T57 HR0.out x8_1 p176 q176
                  cases e176
                  replace hx176_0 := (HB.out.cell (World.block_lt_of_cell? w _ hx176_0)).trans hx176_0
                  replace hx176_1 := (HB.out.cell (World.block_lt_of_cell? w _ hx176_1)).trans hx176_1
                  replace hx176_2 := (HB.out.cell (World.block_lt_of_cell? w _ hx176_2)).trans hx176_2
                  replace hx176_3 := (HB.out.cell (World.block_lt_of_cell? w _ hx176_3)).trans hx176_3
                  replace p176 := eq_true p176
                  replace q176 := eq_true q176
                  go_wp2_with (first | ((with_reducible refine gate_dst (N := 5) rfl ?_); refine box_event ?hg (N := 5) ?hd (cs := #[.bool false, .int .i64 0, .int .i64 0, .int .i64 0]) (t := 57) ?hr ?_; (case hd => rfl); (case hg => rfl); (case hr => first | (go_simp; done) | (go_simp; rfl)); intro gb177 hg w9 hbox hb; have n0_ := Aside0.mk (below_step (by repeat (first | (with_reducible first | exact HB.out | apply below_alloc | apply pw_below_drewN | apply below_drew1) | exact HB.out)) hb); have n1_ := Aside0.mk (hbox); have n2_ := Aside0.mk ((by rw [hg]; exact (below_size (by repeat (first | (with_reducible first | exact HB.out | apply below_alloc | apply pw_below_drewN | apply below_drew1) | exact HB.out))) : w.heap.size ≤ gb177)); have n3_ := Aside0.mk ((by rw [hg]; exact (below_size (by repeat (first | (with_reducible first | exact HB.out | apply below_alloc | apply pw_below_drewN | apply below_drew1) | exact HB.out))) : w.heap.size ≤ gb177)); clear HB; have HB := n0_; have BK177 := n1_; have GW177 := n2_; have GE177 := n3_; clear n0_ n1_ n2_ n3_; clear hb hbox hg; have hcz10_0 : w9.cell? ⟨gb177, 0, none⟩ = some (.bool false) := (blk_cell BK177.out 0).trans rfl; have hcz10_1 : w9.cell? ⟨gb177, 1, none⟩ = some (.int .i64 0) := (blk_cell BK177.out 1).trans rfl; have hcz10_2 : w9.cell? ⟨gb177, 2, none⟩ = some (.int .i64 0) := (blk_cell BK177.out 2).trans rfl; have hcz10_3 : w9.cell? ⟨gb177, 3, none⟩ = some (.int .i64 0) := (blk_cell BK177.out 3).trans rfl; have hfz10_0 := blk_frozen BK177.out 0; have hfz10_1 := blk_frozen BK177.out 1; have hfz10_2 := blk_frozen BK177.out 2; have hfz10_3 := blk_frozen BK177.out 3) | ((with_reducible refine gate_callee (f := 49) rfl ?_); refine goesL_ (some 19) rfl rfl Tryz.func49 (by kernel_rfl) rfl #[.agg #[.bool ((rd_T57 l0 x8_1).f0), .int .i64 ((rd_T57 l0 x8_1).f1), .int .i64 ((rd_T57 l0 x8_1).f2), .int .i64 ((rd_T57 l0 x8_1).f3)]] rfl (by (try simp only [List.map_toArray, List.map_cons, List.map_nil]); first | done | rfl | (simp only [List.length_drop, List.length_take]; rfl)) ?_; (with_reducible refine (spec_ItemText.calls k1 ((rd_T57 l0 x8_1).f0) ((rd_T57 l0 x8_1).f1) ((rd_T57 l0 x8_1).f2) ((rd_T57 l0 x8_1).f3) t178 _ A7.out).mono ?_); rintro e w11 ⟨rfl, hb⟩; refine ⟨_, rfl, ?_⟩; have n0_ := Aside0.mk (blk_below (g := gb177) (o := .cells #[.bool ((rd_T57 l0 x8_1).f0), .int .i64 ((rd_T57 l0 x8_1).f1), .int .i64 ((rd_T57 l0 x8_1).f2), .int .i64 ((rd_T57 l0 x8_1).f3)] 57 (0, 0)) (by (with_reducible repeat (first | refine blk_drewN ?_ _ | refine blk_drew ?_ | refine blk_alloc ?_ _)); refine blk_put (cs := #[.bool ((rd_T57 l0 x8_1).f0), .int .i64 ((rd_T57 l0 x8_1).f1), .int .i64 ((rd_T57 l0 x8_1).f2), .int .i64 0]) ?_ 3 _ rfl; (with_reducible repeat (first | refine blk_drewN ?_ _ | refine blk_drew ?_ | refine blk_alloc ?_ _)); refine blk_put (cs := #[.bool ((rd_T57 l0 x8_1).f0), .int .i64 ((rd_T57 l0 x8_1).f1), .int .i64 0, .int .i64 0]) ?_ 2 _ rfl; (with_reducible repeat (first | refine blk_drewN ?_ _ | refine blk_drew ?_ | refine blk_alloc ?_ _)); refine blk_put (cs := #[.bool ((rd_T57 l0 x8_1).f0), .int .i64 0, .int .i64 0, .int .i64 0]) ?_ 1 _ rfl; (with_reducible repeat (first | refine blk_drewN ?_ _ | refine blk_drew ?_ | refine blk_alloc ?_ _)); refine blk_put (cs := #[.bool false, .int .i64 0, .int .i64 0, .int .i64 0]) ?_ 0 _ rfl; (with_reducible repeat (first | refine blk_drewN ?_ _ | refine blk_drew ?_ | refine blk_alloc ?_ _)); exact BK177.out) hb); have n1_ := Aside0.mk (below_step (by repeat (first | (with_reducible first | exact HB.out | apply below_alloc | apply pw_below_drewN | apply below_drew1 | refine below_set ?_ GE177.out) | exact HB.out)) hb); clear BK177; clear HB; have BK177 := n0_; have HB := n1_; clear n0_ n1_; (try clear hb); (try clear hb2); (try clear hk); (try clear hi)))
                  go_roundg k1
                  case measure => have := HK1.out; omega
                  case rel => exact ⟨((x3_1 ++ (⟨#[44]⟩ : ByteArray)) ++ t178), (wrap64 (x8_1 + 1)), (by first | rfl | (simp; done) | (simp [*]; done)), (by first | rfl | (simp; done) | (simp [*]; done)), H', ⟨by have := HK1.out; omega⟩, ⟨by repeat (first | (with_reducible first | exact HB.out | apply below_alloc | apply pw_below_drewN | apply below_drew1 | refine below_set ?_ GE177.out) | exact HB.out)⟩⟩
                · rw [if_neg c8] at H
                  exact absurd H (by simp)
              · rw [if_neg c6] at H
                exact absurd H (by simp)
            · rw [if_neg c5] at H
              have c5b0 : decide (0 < x8_1) = false := decide_eq_false c5
              clear c5
              replace H := Option.bind_eq_some_iff.mp H
              obtain ⟨t179, A120, H⟩ := H
              replace H : (if x3_1.size + t179.size ≤ 9223372036854775807 then (spec_FieldText.l0 k1 (x3_1 ++ t179) l0 (l0.length : Int) (wrap64 (x8_1 + 1))) else (none)) = some r := H
              have A12 := Aside0.mk A120
              clear A120
              by_cases c13 : x3_1.size + t179.size ≤ 9223372036854775807
              · rw [if_pos c13] at H
                have c13b0 := eq_true c13
                have c13b1 : decide (x3_1.size + t179.size ≤ 9223372036854775807) = true := decide_eq_true c13
                try have c13b2 : (9223372036854775807 < x3_1.size + t179.size) = False := eq_false (Nat.not_lt.2 c13)
                have H' := Aside0.mk H
                clear H
                have p176 : 0 ≤ (x8_1 : Int) := of_decide_eq_true (by first | (with_reducible assumption) | assumption)
                have q176 : x8_1 < (l0.length : Int) := of_decide_eq_true (by first | (with_reducible assumption) | assumption)
                obtain ⟨ad176, e176, hx176_0, hx176_1, hx176_2, hx176_3⟩ := at_T57 HR0.out x8_1 p176 q176
                cases e176
                replace hx176_0 := (HB.out.cell (World.block_lt_of_cell? w _ hx176_0)).trans hx176_0
                replace hx176_1 := (HB.out.cell (World.block_lt_of_cell? w _ hx176_1)).trans hx176_1
                replace hx176_2 := (HB.out.cell (World.block_lt_of_cell? w _ hx176_2)).trans hx176_2
                replace hx176_3 := (HB.out.cell (World.block_lt_of_cell? w _ hx176_3)).trans hx176_3
                replace p176 := eq_true p176
                replace q176 := eq_true q176
                go_wp2_with (first | ((with_reducible refine gate_dst (N := 5) rfl ?_); refine box_event ?hg (N := 5) ?hd (cs := #[.bool false, .int .i64 0, .int .i64 0, .int .i64 0]) (t := 57) ?hr ?_; (case hd => rfl); (case hg => rfl); (case hr => first | (go_simp; done) | (go_simp; rfl)); intro gb177 hg w14 hbox hb; have n0_ := Aside0.mk (below_step (by repeat (first | (with_reducible first | exact HB.out | apply below_alloc | apply pw_below_drewN | apply below_drew1) | exact HB.out)) hb); have n1_ := Aside0.mk (hbox); have n2_ := Aside0.mk ((by rw [hg]; exact (below_size (by repeat (first | (with_reducible first | exact HB.out | apply below_alloc | apply pw_below_drewN | apply below_drew1) | exact HB.out))) : w.heap.size ≤ gb177)); have n3_ := Aside0.mk ((by rw [hg]; exact (below_size (by repeat (first | (with_reducible first | exact HB.out | apply below_alloc | apply pw_below_drewN | apply below_drew1) | exact HB.out))) : w.heap.size ≤ gb177)); clear HB; have HB := n0_; have BK177 := n1_; have GW177 := n2_; have GE177 := n3_; clear n0_ n1_ n2_ n3_; clear hb hbox hg; have hcz15_0 : w14.cell? ⟨gb177, 0, none⟩ = some (.bool false) := (blk_cell BK177.out 0).trans rfl; have hcz15_1 : w14.cell? ⟨gb177, 1, none⟩ = some (.int .i64 0) := (blk_cell BK177.out 1).trans rfl; have hcz15_2 : w14.cell? ⟨gb177, 2, none⟩ = some (.int .i64 0) := (blk_cell BK177.out 2).trans rfl; have hcz15_3 : w14.cell? ⟨gb177, 3, none⟩ = some (.int .i64 0) := (blk_cell BK177.out 3).trans rfl; have hfz15_0 := blk_frozen BK177.out 0; have hfz15_1 := blk_frozen BK177.out 1; have hfz15_2 := blk_frozen BK177.out 2; have hfz15_3 := blk_frozen BK177.out 3) | ((with_reducible refine gate_callee (f := 49) rfl ?_); refine goesL_ (some 19) rfl rfl Tryz.func49 (by kernel_rfl) rfl #[.agg #[.bool ((rd_T57 l0 x8_1).f0), .int .i64 ((rd_T57 l0 x8_1).f1), .int .i64 ((rd_T57 l0 x8_1).f2), .int .i64 ((rd_T57 l0 x8_1).f3)]] rfl (by (try simp only [List.map_toArray, List.map_cons, List.map_nil]); first | done | rfl | (simp only [List.length_drop, List.length_take]; rfl)) ?_; (with_reducible refine (spec_ItemText.calls k1 ((rd_T57 l0 x8_1).f0) ((rd_T57 l0 x8_1).f1) ((rd_T57 l0 x8_1).f2) ((rd_T57 l0 x8_1).f3) t179 _ A12.out).mono ?_); rintro e w16 ⟨rfl, hb⟩; refine ⟨_, rfl, ?_⟩; have n0_ := Aside0.mk (blk_below (g := gb177) (o := .cells #[.bool ((rd_T57 l0 x8_1).f0), .int .i64 ((rd_T57 l0 x8_1).f1), .int .i64 ((rd_T57 l0 x8_1).f2), .int .i64 ((rd_T57 l0 x8_1).f3)] 57 (0, 0)) (by (with_reducible repeat (first | refine blk_drewN ?_ _ | refine blk_drew ?_ | refine blk_alloc ?_ _)); refine blk_put (cs := #[.bool ((rd_T57 l0 x8_1).f0), .int .i64 ((rd_T57 l0 x8_1).f1), .int .i64 ((rd_T57 l0 x8_1).f2), .int .i64 0]) ?_ 3 _ rfl; (with_reducible repeat (first | refine blk_drewN ?_ _ | refine blk_drew ?_ | refine blk_alloc ?_ _)); refine blk_put (cs := #[.bool ((rd_T57 l0 x8_1).f0), .int .i64 ((rd_T57 l0 x8_1).f1), .int .i64 0, .int .i64 0]) ?_ 2 _ rfl; (with_reducible repeat (first | refine blk_drewN ?_ _ | refine blk_drew ?_ | refine blk_alloc ?_ _)); refine blk_put (cs := #[.bool ((rd_T57 l0 x8_1).f0), .int .i64 0, .int .i64 0, .int .i64 0]) ?_ 1 _ rfl; (with_reducible repeat (first | refine blk_drewN ?_ _ | refine blk_drew ?_ | refine blk_alloc ?_ _)); refine blk_put (cs := #[.bool false, .int .i64 0, .int .i64 0, .int .i64 0]) ?_ 0 _ rfl; (with_reducible repeat (first | refine blk_drewN ?_ _ | refine blk_drew ?_ | refine blk_alloc ?_ _)); exact BK177.out) hb); have n1_ := Aside0.mk (below_step (by repeat (first | (with_reducible first | exact HB.out | apply below_alloc | apply pw_below_drewN | apply below_drew1 | refine below_set ?_ GE177.out) | exact HB.out)) hb); clear BK177; clear HB; have BK177 := n0_; have HB := n1_; clear n0_ n1_; (try clear hb); (try clear hb2); (try clear hk); (try clear hi)))
                go_roundg k1
                case measure => have := HK1.out; omega
                case rel => exact ⟨(x3_1 ++ t179), (wrap64 (x8_1 + 1)), (by first | rfl | (simp; done) | (simp [*]; done)), (by first | rfl | (simp; done) | (simp [*]; done)), H', ⟨by have := HK1.out; omega⟩, ⟨by repeat (first | (with_reducible first | exact HB.out | apply below_alloc | apply pw_below_drewN | apply below_drew1 | refine below_set ?_ GE177.out) | exact HB.out)⟩⟩
              · rw [if_neg c13] at H
                exact absurd H (by simp)
          · rw [if_neg c4] at H
            exact absurd H (by simp)
        · rw [if_neg c3] at H
          exact absurd H (by simp)
      · rw [if_neg c2] at H
        have c2b0 : decide (x8_1 < (l0.length : Int)) = false := decide_eq_false c2
        clear c2
        obtain rfl := Option.some.inj H
        go_wp2
        go_ret
        exact ⟨by first | rfl | (simp [errW_none, errW_some] <;> rfl) | (simp [*, errW_none, errW_some] <;> rfl), by repeat (first | (with_reducible first | exact HB.out | apply below_alloc | apply pw_below_drewN | apply below_drew1) | exact HB.out)⟩
end Go.Proofs.YtkhgeonlohafgaaGreatDoor.Core
