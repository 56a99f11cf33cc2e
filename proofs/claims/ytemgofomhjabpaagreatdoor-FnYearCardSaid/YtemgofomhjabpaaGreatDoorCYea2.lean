/- Contracts and plain lemmas of this seat (part 2), merged by wip/merge2.py; what is proved stands in the claim's last text. -/
import Derived.Test.YtemgofomhjabpaaGreatDoorCYea1
import Derived.Test.YtemgofomhjabpaaGreatDoorProg
import Derived.Below
import Derived.Deep.Draws
import Derived.Deep.AppendLies
import Derived.Maps.AppendAt
import Derived.OwnWalk
import Derived.Laws.BytesArg
import Derived.Laws.MakeOwn
import Derived.Laws.OwnMore
import Derived.Deep.OwnRows
import Derived.Tactics
import Derived.Lib.ConvBytes
import Derived.Laws.Slices
import Derived.WalkKit
import Derived.KernelRfl
import Derived.RowKit3
import Derived.Deep.LoopGhost
import Derived.Deep.QuietTactic
import Derived.BigQuiet
import Derived.WideLaws
import Derived.Deep.DeepCutAuto
import Derived.Deep.CutBlock
import Derived.Deep.RegionHeld3
import Derived.Laws.Rows
import Derived.Lib.AppendStr
import Derived.ArgAppend
import Derived.Laws.IdiomCopy
import Derived.OrdersHeld
import Derived.Laws.BitsLemmas
import Derived.RowKit
import Derived.ChangeKeysEq
import Derived.Barred
namespace Go.Proofs.YtemgofomhjabpaaGreatDoor.Core
open Go.RowKit Go.Proofs.YtemgofomhjabpaaGreatDoorW.PrintWords Go.Proofs.YtemgofomhjabpaaGreatDoorW.PrintLast Go.Proofs.YtemgofomhjabpaaGreatDoorW.PrintMore
attribute [local go_sem] max2_int min2_int max_two min_two max_three min_three max_four min_four   -- for this text's walks alone
set_option linter.unusedVariables false
set_option linter.unusedSimpArgs false
def errW : Option Int → Value
 | none => .nilIface
 | some c => .iface 0 (.int .i64 c)
theorem errW_none : errW none = .nilIface := rfl
theorem errW_some (c : Int) : errW (some c) = .iface 0 (.int .i64 c) := rfl
theorem info5 : (Tryz.prog.info? 5).map (fun i => (i.zero, i.size, i.bytes)) = some (some (.int .u8 0), 1, 1) := by kernel_rfl
theorem info9 : (Tryz.prog.info? 9).map (fun i => (i.zero, i.size, i.bytes)) = some (some (.string ⟨#[]⟩), 1, 16) := by kernel_rfl
theorem info36 : (Tryz.prog.info? 36).map (fun i => (i.zero, i.size, i.bytes)) = some (some (.slice none 0 0), 1, 24) := by kernel_rfl
theorem info38 : (Tryz.prog.info? 38).map (fun i => (i.zero, i.size, i.bytes)) = some (some (.agg #[(.bool false), (.int .i64 0), (.int .i64 0), (.int .i64 0)]), 4, 32) := by kernel_rfl
structure S69 where
 f0 : Bool
 f1 : Int
 f2 : Int
 f3 : Int
def z69 : S69 := ⟨false, (0 : Int), (0 : Int), (0 : Int)⟩
def k69 : Kd S69 := Kd.iso (Kd.pair Kd.bool (Kd.pair (Kd.int .i64) (Kd.pair (Kd.int .i64) (Kd.int .i64)))) (fun x : S69 => (x.f0, x.f1, x.f2, x.f3))
theorem k69_open {w : World} {x : S69} {cs : List Value} (h : k69.K w x cs) : cs = [.bool x.f0, .int .i64 x.f1, .int .i64 x.f2, .int .i64 x.f3] := by
 obtain ⟨_, _, rfl, rfl, ⟨_, _, rfl, rfl, ⟨_, _, rfl, rfl, rfl⟩⟩⟩ := h
 exact rfl
theorem k69_mk (w : World) (x : S69)  : k69.K w x [.bool x.f0, .int .i64 x.f1, .int .i64 x.f2, .int .i64 x.f3] := ⟨[.bool x.f0], [.int .i64 x.f1, .int .i64 x.f2, .int .i64 x.f3], rfl, rfl, ⟨[.int .i64 x.f1], [.int .i64 x.f2, .int .i64 x.f3], rfl, rfl, ⟨[.int .i64 x.f2], [.int .i64 x.f3], rfl, rfl, rfl⟩⟩⟩
def rd_T69 (xs : List S69) (i : Int) : S69 := xs.getD i.toNat z69
theorem at_T69 {w : World} {A : Option Addr} {n : Nat} {xs : List S69} (h : Kd.C k69 w A n xs) (i : Int) (h0 : 0 ≤ i) (h1 : i < n) : ∃ ad , A = some ad ∧ w.cell? (ad.add (i.toNat * 4)) = some (.bool (rd_T69 xs i).f0) ∧ w.cell? ⟨(ad.add (i.toNat * 4)).block, (ad.add (i.toNat * 4)).off + 1, none⟩ = some (.int .i64 (rd_T69 xs i).f1) ∧ w.cell? ⟨(ad.add (i.toNat * 4)).block, (ad.add (i.toNat * 4)).off + 2, none⟩ = some (.int .i64 (rd_T69 xs i).f2) ∧ w.cell? ⟨(ad.add (i.toNat * 4)).block, (ad.add (i.toNat * 4)).off + 3, none⟩ = some (.int .i64 (rd_T69 xs i).f3) := by
 obtain ⟨ad, c, e, _, hK, hc0⟩ := Kd.C_get h z69 i h0 h1
 have hc : ∀ j u, c[j]? = some u → w.cell? (ad.add (i.toNat * 4 + j)) = some u := hc0
 obtain rfl := k69_open hK
 exact ⟨ad, e, hc 0 _ rfl, by rw [← add_field _ _ 1 (by omega)]; exact hc 1 _ rfl, by rw [← add_field _ _ 2 (by omega)]; exact hc 2 _ rfl, by rw [← add_field _ _ 3 (by omega)]; exact hc 3 _ rfl⟩
def rd_L3 (xs : List (List S69)) (i : Int) : (List S69) := xs.getD i.toNat ([] : List S69)
theorem at_L3 {w : World} {A : Option Addr} {n : Nat} {xs : List (List S69)} (h : Kd.C (Kd.slice 69 k69) w A n xs) (i : Int) (h0 : 0 ≤ i) (h1 : i < n) : ∃ ad A0 c0, A = some ad ∧ w.cell? (ad.add i.toNat) = some (.slice A0 (rd_L3 xs i).length c0) ∧ (rd_L3 xs i).length ≤ c0 ∧ k69.C w A0 (rd_L3 xs i).length (rd_L3 xs i) := by
 obtain ⟨ad, c, e, _, hK, hc0⟩ := Kd.C_get h ([] : List S69) i h0 h1
 have hc : ∀ j u, c[j]? = some u → w.cell? (ad.add (i.toNat * 1 + j)) = some u := hc0
 obtain ⟨A0, c0, rfl, l0, g0⟩ := hK
 exact ⟨ad, A0, c0, e, by have hq := hc 0 _ rfl; rwa [Nat.mul_one, Nat.add_zero] at hq, l0, g0⟩
structure S38 where
 f0 : Bool
 f1 : Int
 f2 : Int
 f3 : Int
def z38 : S38 := ⟨false, (0 : Int), (0 : Int), (0 : Int)⟩
def k38 : Kd S38 := Kd.iso (Kd.pair Kd.bool (Kd.pair (Kd.int .i64) (Kd.pair (Kd.int .i64) (Kd.int .i64)))) (fun x : S38 => (x.f0, x.f1, x.f2, x.f3))
theorem k38_open {w : World} {x : S38} {cs : List Value} (h : k38.K w x cs) : cs = [.bool x.f0, .int .i64 x.f1, .int .i64 x.f2, .int .i64 x.f3] := by
 obtain ⟨_, _, rfl, rfl, ⟨_, _, rfl, rfl, ⟨_, _, rfl, rfl, rfl⟩⟩⟩ := h
 exact rfl
theorem k38_mkM (w : World) (base : Nat) (ok : Nat → Prop) (x : S38)  : k38.M w base ok x [.bool x.f0, .int .i64 x.f1, .int .i64 x.f2, .int .i64 x.f3] := ⟨[.bool x.f0], [.int .i64 x.f1, .int .i64 x.f2, .int .i64 x.f3], rfl, rfl, ⟨[.int .i64 x.f1], [.int .i64 x.f2, .int .i64 x.f3], rfl, rfl, ⟨[.int .i64 x.f2], [.int .i64 x.f3], rfl, rfl, rfl⟩⟩⟩
def rd_T38 (xs : List S38) (i : Int) : S38 := xs.getD i.toNat z38
theorem at_T38 {w : World} {A : Option Addr} {n : Nat} {xs : List S38} (h : Kd.C k38 w A n xs) (i : Int) (h0 : 0 ≤ i) (h1 : i < n) : ∃ ad , A = some ad ∧ w.cell? (ad.add (i.toNat * 4)) = some (.bool (rd_T38 xs i).f0) ∧ w.cell? ⟨(ad.add (i.toNat * 4)).block, (ad.add (i.toNat * 4)).off + 1, none⟩ = some (.int .i64 (rd_T38 xs i).f1) ∧ w.cell? ⟨(ad.add (i.toNat * 4)).block, (ad.add (i.toNat * 4)).off + 2, none⟩ = some (.int .i64 (rd_T38 xs i).f2) ∧ w.cell? ⟨(ad.add (i.toNat * 4)).block, (ad.add (i.toNat * 4)).off + 3, none⟩ = some (.int .i64 (rd_T38 xs i).f3) := by
 obtain ⟨ad, c, e, _, hK, hc0⟩ := Kd.C_get h z38 i h0 h1
 have hc : ∀ j u, c[j]? = some u → w.cell? (ad.add (i.toNat * 4 + j)) = some u := hc0
 obtain rfl := k38_open hK
 exact ⟨ad, e, hc 0 _ rfl, by rw [← add_field _ _ 1 (by omega)]; exact hc 1 _ rfl, by rw [← add_field _ _ 2 (by omega)]; exact hc 2 _ rfl, by rw [← add_field _ _ 3 (by omega)]; exact hc 3 _ rfl⟩
def rd_L5 (xs : List (List S38)) (i : Int) : (List S38) := xs.getD i.toNat ([] : List S38)
theorem at_L5 {w : World} {A : Option Addr} {n : Nat} {xs : List (List S38)} (h : Kd.C (Kd.slice 38 k38) w A n xs) (i : Int) (h0 : 0 ≤ i) (h1 : i < n) : ∃ ad A0 c0, A = some ad ∧ w.cell? (ad.add i.toNat) = some (.slice A0 (rd_L5 xs i).length c0) ∧ (rd_L5 xs i).length ≤ c0 ∧ k38.C w A0 (rd_L5 xs i).length (rd_L5 xs i) := by
 obtain ⟨ad, c, e, _, hK, hc0⟩ := Kd.C_get h ([] : List S38) i h0 h1
 have hc : ∀ j u, c[j]? = some u → w.cell? (ad.add (i.toNat * 1 + j)) = some u := hc0
 obtain ⟨A0, c0, rfl, l0, g0⟩ := hK
 exact ⟨ad, A0, c0, e, by have hq := hc 0 _ rfl; rwa [Nat.mul_one, Nat.add_zero] at hq, l0, g0⟩
structure S43 where
 f0 : Int
 f1 : Int
 f2 : Int
 f3 : Int
 f4 : Int
 f5 : Int
structure S26 where
 f0 : Int
 f1 : Int
 f2 : Int
 f3 : Int
 f4 : Int
 f5 : Int
structure S24 where
 f0 : (List (List S69))
 f1 : Bool
structure S30 where
 f0 : (List (List S38))
 f1 : Bool
def errors_New.f (_a0 : ByteArray) : Option (Option Int) := none
theorem errors_New.calls (a0 : ByteArray) (r : Option Int) (w : World) (h : errors_New.f a0 = some r) :
  Calls Tryz.prog 47 #[.string a0] w fun e w' => e = .returned (errW r) ∧ Below w.heap.size w w' := by cases h
theorem index_arr {P : Program} (t e : TypeId) (n : Nat) (k : IntKind) (l : List Int) (j : Int) (h : P.underlying t = some (.array n e)) (he : P.plainKey e = true) (hz : ∀ w, (sizeOf e).run P w = .ok 1 w) (hl : l.length = n) (h0 : 0 ≤ j) (h1 : j < n) (w : World) :
  (Instr.index t (.agg (l.map fun x => Value.int k x).toArray) (.int .i64 j)).run P w = .ok (.int k (rd l j)) w := by
 have hx : ((l.map fun x => Value.int k x).toArray)[j.toNat * 1]? = some (.int k (rd l j)) := by
  have : j.toNat < l.length := by omega
  simp [rd, this]
 have hp := run_part_plain (w := w) he hx
 have e1 : (Instr.index t (.agg (l.map fun x => Value.int k x).toArray) (.int .i64 j)).run P w = (part e (l.map fun x => Value.int k x).toArray (j.toNat * 1)).run P w := by
  simp [Instr.index, run_underlying h, asIntOf, h0, h1, hz, go_sem]
 rw [e1]
 exact hp
theorem index_T50 (x0 x1 x2 x3 x4 x5 j : Int) (h0 : 0 ≤ j) (h1 : j < 6) (w : World) : (Instr.index 50 (.agg #[.int .i64 x0, .int .i64 x1, .int .i64 x2, .int .i64 x3, .int .i64 x4, .int .i64 x5]) (.int .i64 j)).run Tryz.prog w = .ok (.int .i64 (rd [x0, x1, x2, x3, x4, x5] j)) w :=
 index_arr 50 3 6 .i64 [x0, x1, x2, x3, x4, x5] j Tryz.underlying50 (by kernel_rfl) (fun w => by simp [Tryz.sizeOf3]) rfl h0 h1 w
theorem index_T106 (x0 x1 x2 x3 x4 x5 x6 x7 x8 x9 x10 x11 x12 j : Int) (h0 : 0 ≤ j) (h1 : j < 13) (w : World) : (Instr.index 106 (.agg #[.int .i64 x0, .int .i64 x1, .int .i64 x2, .int .i64 x3, .int .i64 x4, .int .i64 x5, .int .i64 x6, .int .i64 x7, .int .i64 x8, .int .i64 x9, .int .i64 x10, .int .i64 x11, .int .i64 x12]) (.int .i64 j)).run Tryz.prog w = .ok (.int .i64 (rd [x0, x1, x2, x3, x4, x5, x6, x7, x8, x9, x10, x11, x12] j)) w :=
 index_arr 106 3 13 .i64 [x0, x1, x2, x3, x4, x5, x6, x7, x8, x9, x10, x11, x12] j Tryz.underlying106 (by kernel_rfl) (fun w => by simp [Tryz.sizeOf3]) rfl h0 h1 w
end Go.Proofs.YtemgofomhjabpaaGreatDoor.Core
namespace Go.Proofs.YtemgofomhjabpaaGreatDoor.Core
open Go.RowKit Go.Proofs.YtemgofomhjabpaaGreatDoorW.PrintWords Go.Proofs.YtemgofomhjabpaaGreatDoorW.PrintLast Go.Proofs.YtemgofomhjabpaaGreatDoorW.PrintMore
attribute [local go_sem] max2_int min2_int max_two min_two max_three min_three max_four min_four   -- for this text's walks alone
set_option linter.unusedVariables false
set_option linter.unusedSimpArgs false
theorem eqA38 (d : Nat) (w : World) (x0 y0 : Bool) (x1 y1 : Int) (x2 y2 : Int) (x3 y3 : Int) :
  (Op.equalIn (d + 2) 38 (.agg #[.bool x0, .int .i64 x1, .int .i64 x2, .int .i64 x3]) (.agg #[.bool y0, .int .i64 y1, .int .i64 y2, .int .i64 y3])).run Tryz.prog w = .ok (x0 == y0 && (x1 == y1 && (x2 == y2 && (x3 == y3)))) w := by
 refine eqA_of Tryz.underlying38 (by kernel_rfl) ?_
 refine eqf_cons (by rfl) (by go_simp; rfl) (by go_simp; rfl) (by go_simp) ?_
 refine eqf_cons (by rfl) (by go_simp; rfl) (by go_simp; rfl) (by go_simp) ?_
 refine eqf_cons (by rfl) (by go_simp; rfl) (by go_simp; rfl) (by go_simp) ?_
 exact eqf_last (by rfl) (by go_simp; rfl) (by go_simp; rfl) (by go_simp)
end Go.Proofs.YtemgofomhjabpaaGreatDoor.Core
namespace Go.Proofs.YtemgofomhjabpaaGreatDoor.Core
open Go.RowKit Go.Proofs.YtemgofomhjabpaaGreatDoorW.PrintWords Go.Proofs.YtemgofomhjabpaaGreatDoorW.PrintLast Go.Proofs.YtemgofomhjabpaaGreatDoorW.PrintMore
attribute [local go_sem] max2_int min2_int max_two min_two max_three min_three max_four min_four   -- for this text's walks alone
set_option linter.unusedVariables false
set_option linter.unusedSimpArgs false
def spec_Low.f (a0 : Int) : Option (Int) := if a0 = 3 then (some 1) else (if a0 = 4 then (some 1) else (some 0))
set_option maxHeartbeats 8000000 in
set_option maxRecDepth 100000 in
theorem spec_Low.calls (a0 : Int) (r : Int) (w : World) (h : spec_Low.f a0 = some r) :
  Calls Tryz.prog 20 #[.int .i64 a0] w fun e w' => e = .returned (.int .i64 r) ∧ Drawn0 w w' := by
 have H : (if a0 = 3 then (some 1) else (if a0 = 4 then (some 1) else (some 0))) = some r := h
 clear h
 by_cases c2 : a0 = 3
 ·rw [if_pos c2] at H
  have c2b0 : (a0 == 3) = true := beq_iff_eq.mpr c2
  have c2b1 : (a0 != 3) = false := bne_eq_false_iff_eq.mpr c2
  clear c2
  obtain rfl := Option.some.inj H
  go_enter Tryz.func20, Tryz.ntmps20
  go_wp2
  go_ret
  exact ⟨by first | rfl | (simp; done) | (simp [*]; done), by repeat (first | exact Drawn0.refl _ | apply Drawn0.step)⟩
 ·rw [if_neg c2] at H
  have c2b0 : (a0 == 3) = false := beq_eq_false_iff_ne.mpr c2
  have c2b1 : (a0 != 3) = true := bne_iff_ne.mpr c2
  by_cases c3 : a0 = 4
  ·rw [if_pos c3] at H
   have c3b0 : (a0 == 4) = true := beq_iff_eq.mpr c3
   have c3b1 : (a0 != 4) = false := bne_eq_false_iff_eq.mpr c3
   clear c3
   obtain rfl := Option.some.inj H
   go_enter Tryz.func20, Tryz.ntmps20
   go_wp2
   go_ret
   exact ⟨by first | rfl | (simp; done) | (simp [*]; done), by repeat (first | exact Drawn0.refl _ | apply Drawn0.step)⟩
  ·rw [if_neg c3] at H
   have c3b0 : (a0 == 4) = false := beq_eq_false_iff_ne.mpr c3
   have c3b1 : (a0 != 4) = true := bne_iff_ne.mpr c3
   obtain rfl := Option.some.inj H
   go_enter Tryz.func20, Tryz.ntmps20
   go_wp2
   go_ret
   exact ⟨by first | rfl | (simp; done) | (simp [*]; done), by repeat (first | exact Drawn0.refl _ | apply Drawn0.step)⟩
end Go.Proofs.YtemgofomhjabpaaGreatDoor.Core
namespace Go.Proofs.YtemgofomhjabpaaGreatDoor.Core
open Go.RowKit Go.Proofs.YtemgofomhjabpaaGreatDoorW.PrintWords Go.Proofs.YtemgofomhjabpaaGreatDoorW.PrintLast Go.Proofs.YtemgofomhjabpaaGreatDoorW.PrintMore
attribute [local go_sem] max2_int min2_int max_two min_two max_three min_three max_four min_four   -- for this text's walks alone
set_option linter.unusedVariables false
set_option linter.unusedSimpArgs false
def spec_High.f (a0 : Int) : Option (Int) := if 0 ≤ a0 then (if a0 < 6 then (some (rd [59, 59, 23, 31, 12, 6] a0)) else (none)) else (none)
set_option maxHeartbeats 8000000 in
set_option maxRecDepth 100000 in
theorem spec_High.calls (a0 : Int) (r : Int) (w : World) (h : spec_High.f a0 = some r) :
  Calls Tryz.prog 21 #[.int .i64 a0] w fun e w' => e = .returned (.int .i64 r) ∧ Drawn0 w w' := by
 have hu50 := Tryz.underlying50
 have H : (if 0 ≤ a0 then (if a0 < 6 then (some (rd [59, 59, 23, 31, 12, 6] a0)) else (none)) else (none)) = some r := h
 clear h
 by_cases c2 : 0 ≤ a0
 ·rw [if_pos c2] at H
  have c2b0 : decide (0 ≤ a0) = true := decide_eq_true c2
  clear c2
  by_cases c3 : a0 < 6
  ·rw [if_pos c3] at H
   have c3b0 : decide (a0 < 6) = true := decide_eq_true c3
   clear c3
   have hixz123_ := fun w_ : World => (index_T50 59 59 23 31 12 6 a0 (of_decide_eq_true (by first | (with_reducible assumption) | assumption)) (of_decide_eq_true (by first | (with_reducible assumption) | assumption)) w_ : (Instr.index 50 (.agg #[.int .i64 59, .int .i64 59, .int .i64 23, .int .i64 31, .int .i64 12, .int .i64 6]) (.int .i64 a0)).run Tryz.prog w_ = .ok (.int .i64 (rd [59, 59, 23, 31, 12, 6] a0)) w_)
   obtain rfl := Option.some.inj H
   go_enter Tryz.func21, Tryz.ntmps21
   go_wp2
   go_ret
   exact ⟨by first | rfl | (simp; done) | (simp [*]; done), by repeat (first | exact Drawn0.refl _ | apply Drawn0.step)⟩
  ·rw [if_neg c3] at H
   exact absurd H (by simp)
 ·rw [if_neg c2] at H
  exact absurd H (by simp)
end Go.Proofs.YtemgofomhjabpaaGreatDoor.Core
namespace Go.Proofs.YtemgofomhjabpaaGreatDoor.Core
open Go.RowKit Go.Proofs.YtemgofomhjabpaaGreatDoorW.PrintWords Go.Proofs.YtemgofomhjabpaaGreatDoorW.PrintLast Go.Proofs.YtemgofomhjabpaaGreatDoorW.PrintMore
attribute [local go_sem] max2_int min2_int max_two min_two max_three min_three max_four min_four   -- for this text's walks alone
set_option linter.unusedVariables false
set_option linter.unusedSimpArgs false
mutual
def spec_Good.l0 : Nat → Int → List (S38) → List (S38) → Int → Int → Option (Bool)
 | 0, _, _, _, _, _ => none
 | k + 1, x0, x1, x7, x8, x9 => if x9 < x8 then (if 0 ≤ x9 then (if x9 < (x7.length : Int) then (if ((rd_T38 x7 x9).f3) < 1 then (spec_Good.j1 k x0 x1 x7 x8 x9 true ((rd_T38 x7 x9).f0) ((rd_T38 x7 x9).f1) ((rd_T38 x7 x9).f2) ((rd_T38 x7 x9).f3)) else (spec_Good.j1 k x0 x1 x7 x8 x9 (decide (((rd_T38 x7 x9).f3) > 60)) ((rd_T38 x7 x9).f0) ((rd_T38 x7 x9).f1) ((rd_T38 x7 x9).f2) ((rd_T38 x7 x9).f3))) else (none)) else (none)) else (if (x1.length : Int) ≥ 1 then (some (decide ((x1.length : Int) ≤ 6))) else (some false))
def spec_Good.j1 : Nat → Int → List (S38) → List (S38) → Int → Int → Bool → Bool → Int → Int → Int → Option (Bool)
 | 0, _, _, _, _, _, _, _, _, _, _ => none
 | k + 1, x0, x1, x7, x8, x9, x20, x126000, x126001, x126002, x126003 => if x20 = true then (some false) else (if x126000 = true then (spec_Good.l0 k x0 x1 x7 x8 (wrap64 (x9 + 1))) else ((spec_Low.f x0).bind fun t126 => (if x126001 < t126 then (some false) else ((spec_High.f x0).bind fun t127 => (if x126002 > t127 then (some false) else (if x126001 > x126002 then (some false) else (spec_Good.l0 k x0 x1 x7 x8 (wrap64 (x9 + 1)))))))))
end
def spec_Good.f (k : Nat) (a0 : Int) (l1 : List (S38)) : Option (Bool) := spec_Good.l0 k a0 l1 l1 (l1.length : Int) 0
set_option maxHeartbeats 8000000 in
set_option maxRecDepth 100000 in
theorem spec_Good.calls (k : Nat) (a0 : Int) (A1 : Option Addr) (c1 : Nat) (l1 : List (S38)) (r : Bool) (w : World) (hr1 : Kd.C k38 w A1 l1.length l1) (hc1 : l1.length ≤ c1) (h : spec_Good.f k a0 l1 = some r) :
  Calls Tryz.prog 40 #[.int .i64 a0, .slice A1 l1.length c1] w fun e w' => e = .returned (.bool r) ∧ Below w.heap.size w w' := by
 have hu38 := Tryz.underlying38
 have HR1 := Aside0.mk hr1
 have HC1 := Aside0.mk hc1
 clear hr1 hc1
 have HB := Aside0.mk (Below.refl w.heap.size w)
 have H : (spec_Good.l0 k a0 l1 l1 (l1.length : Int) 0) = some r := h
 clear h
 have H' := Aside0.mk H
 clear H
 go_enter Tryz.func40, Tryz.ntmps40
 go_wp2
 repeat (go_quiet (fail); try go_wp2)
 go_loopg [9] k (fun kq v9 w' => ∃ (x9_1 : Int), v9 = .int .i64 x9_1 ∧ Aside0 (spec_Good.l0 kq a0 l1 l1 (l1.length : Int) x9_1 = some r) ∧ Aside0 (kq ≤ k) ∧ Aside0 (Below w.heap.size w w'))
 case atStart => exact ⟨(0), (by first | rfl | (simp; done) | (simp [*]; done)), H', ⟨Nat.le_refl _⟩, ⟨by repeat (first | (with_reducible first | exact HB.out | apply below_alloc | apply pw_below_drewN | apply below_drew1) | exact HB.out)⟩⟩
 case round =>
  clear H'
  try clear c1
  try clear p2
  obtain ⟨x9_1, rfl, HA, HK1, HB⟩ := hrel
  cases gk with
  | zero => exact absurd HA.out (by simp [spec_Good.l0])
  | succ k1 =>
   have H := HA.out
   clear HA
   simp only [spec_Good.l0] at H
   by_cases c3 : x9_1 < (l1.length : Int)
   ·rw [if_pos c3] at H
    have c3b0 : decide (x9_1 < (l1.length : Int)) = true := decide_eq_true c3
    clear c3
    by_cases c4 : 0 ≤ x9_1
    ·rw [if_pos c4] at H
     have c4b0 : decide (0 ≤ x9_1) = true := decide_eq_true c4
     clear c4
     by_cases c5 : x9_1 < (l1.length : Int)
     ·rw [if_pos c5] at H
      have c5b0 : decide (x9_1 < (l1.length : Int)) = true := decide_eq_true c5
      clear c5
      have HC6 := Aside0.mk H
      clear H
      have p124 : 0 ≤ (x9_1 : Int) := of_decide_eq_true (by first | (with_reducible assumption) | assumption)
      have q124 : x9_1 < (l1.length : Int) := of_decide_eq_true (by first | (with_reducible assumption) | assumption)
      obtain ⟨ad124, e124, hx124_0, hx124_1, hx124_2, hx124_3⟩ := at_T38 HR1.out x9_1 p124 q124
      cases e124
      replace hx124_0 := (HB.out.cell (World.block_lt_of_cell? w _ hx124_0)).trans hx124_0
      replace hx124_1 := (HB.out.cell (World.block_lt_of_cell? w _ hx124_1)).trans hx124_1
      replace hx124_2 := (HB.out.cell (World.block_lt_of_cell? w _ hx124_2)).trans hx124_2
      replace hx124_3 := (HB.out.cell (World.block_lt_of_cell? w _ hx124_3)).trans hx124_3
      replace p124 := eq_true p124
      replace q124 := eq_true q124
      go_upto_region 4 with (first | ((with_reducible refine gate_dst (N := 6) rfl ?_); (try (refine gate_guard (by rfl) ?_; dsimp only)); refine box_event ?hg (N := 6) ?hd (cs := #[.bool false, .int .i64 0, .int .i64 0, .int .i64 0]) (t := 38) ?hr ?_; (case hd => rfl); (case hg => rfl); (case hr => first | (go_simp; done) | (go_simp; rfl)); intro gb125 hg w7 hbox hb; have n0_ := Aside0.mk (below_step (by repeat (first | (with_reducible first | exact HB.out | apply below_alloc | apply pw_below_drewN | apply below_drew1) | exact HB.out)) hb); have n1_ := Aside0.mk (hbox); have n2_ := Aside0.mk ((by rw [hg]; exact (below_size (by repeat (first | (with_reducible first | exact HB.out | apply below_alloc | apply pw_below_drewN | apply below_drew1) | exact HB.out))) : w.heap.size ≤ gb125)); have n3_ := Aside0.mk ((by rw [hg]; exact (below_size (by repeat (first | (with_reducible first | exact HB.out | apply below_alloc | apply pw_below_drewN | apply below_drew1) | exact HB.out))) : w.heap.size ≤ gb125)); clear HB; have HB := n0_; have BK125 := n1_; have GW125 := n2_; have GE125 := n3_; clear n0_ n1_ n2_ n3_; clear hb hbox hg; have hcz8_0 : w7.cell? ⟨gb125, 0, none⟩ = some (.bool false) := (blk_cell BK125.out 0).trans rfl; have hcz8_1 : w7.cell? ⟨gb125, 1, none⟩ = some (.int .i64 0) := (blk_cell BK125.out 1).trans rfl; have hcz8_2 : w7.cell? ⟨gb125, 2, none⟩ = some (.int .i64 0) := (blk_cell BK125.out 2).trans rfl; have hcz8_3 : w7.cell? ⟨gb125, 3, none⟩ = some (.int .i64 0) := (blk_cell BK125.out 3).trans rfl; have hfz8_0 := blk_frozen BK125.out 0; have hfz8_1 := blk_frozen BK125.out 1; have hfz8_2 := blk_frozen BK125.out 2; have hfz8_3 := blk_frozen BK125.out 3))
      repeat (go_quiet (first | ((with_reducible refine gate_dst (N := 6) rfl ?_); (try (refine gate_guard (by rfl) ?_; dsimp only)); refine box_event ?hg (N := 6) ?hd (cs := #[.bool false, .int .i64 0, .int .i64 0, .int .i64 0]) (t := 38) ?hr ?_; (case hd => rfl); (case hg => rfl); (case hr => first | (go_simp; done) | (go_simp; rfl)); intro gb125 hg w7 hbox hb; have n0_ := Aside0.mk (below_step (by repeat (first | (with_reducible first | exact HB.out | apply below_alloc | apply pw_below_drewN | apply below_drew1) | exact HB.out)) hb); have n1_ := Aside0.mk (hbox); have n2_ := Aside0.mk ((by rw [hg]; exact (below_size (by repeat (first | (with_reducible first | exact HB.out | apply below_alloc | apply pw_below_drewN | apply below_drew1) | exact HB.out))) : w.heap.size ≤ gb125)); have n3_ := Aside0.mk ((by rw [hg]; exact (below_size (by repeat (first | (with_reducible first | exact HB.out | apply below_alloc | apply pw_below_drewN | apply below_drew1) | exact HB.out))) : w.heap.size ≤ gb125)); clear HB; have HB := n0_; have BK125 := n1_; have GW125 := n2_; have GE125 := n3_; clear n0_ n1_ n2_ n3_; clear hb hbox hg; have hcz8_0 : w7.cell? ⟨gb125, 0, none⟩ = some (.bool false) := (blk_cell BK125.out 0).trans rfl; have hcz8_1 : w7.cell? ⟨gb125, 1, none⟩ = some (.int .i64 0) := (blk_cell BK125.out 1).trans rfl; have hcz8_2 : w7.cell? ⟨gb125, 2, none⟩ = some (.int .i64 0) := (blk_cell BK125.out 2).trans rfl; have hcz8_3 : w7.cell? ⟨gb125, 3, none⟩ = some (.int .i64 0) := (blk_cell BK125.out 3).trans rfl; have hfz8_0 := blk_frozen BK125.out 0; have hfz8_1 := blk_frozen BK125.out 1; have hfz8_2 := blk_frozen BK125.out 2; have hfz8_3 := blk_frozen BK125.out 3)); go_upto_region 4 with (first | ((with_reducible refine gate_dst (N := 6) rfl ?_); (try (refine gate_guard (by rfl) ?_; dsimp only)); refine box_event ?hg (N := 6) ?hd (cs := #[.bool false, .int .i64 0, .int .i64 0, .int .i64 0]) (t := 38) ?hr ?_; (case hd => rfl); (case hg => rfl); (case hr => first | (go_simp; done) | (go_simp; rfl)); intro gb125 hg w7 hbox hb; have n0_ := Aside0.mk (below_step (by repeat (first | (with_reducible first | exact HB.out | apply below_alloc | apply pw_below_drewN | apply below_drew1) | exact HB.out)) hb); have n1_ := Aside0.mk (hbox); have n2_ := Aside0.mk ((by rw [hg]; exact (below_size (by repeat (first | (with_reducible first | exact HB.out | apply below_alloc | apply pw_below_drewN | apply below_drew1) | exact HB.out))) : w.heap.size ≤ gb125)); have n3_ := Aside0.mk ((by rw [hg]; exact (below_size (by repeat (first | (with_reducible first | exact HB.out | apply below_alloc | apply pw_below_drewN | apply below_drew1) | exact HB.out))) : w.heap.size ≤ gb125)); clear HB; have HB := n0_; have BK125 := n1_; have GW125 := n2_; have GE125 := n3_; clear n0_ n1_ n2_ n3_; clear hb hbox hg; have hcz8_0 : w7.cell? ⟨gb125, 0, none⟩ = some (.bool false) := (blk_cell BK125.out 0).trans rfl; have hcz8_1 : w7.cell? ⟨gb125, 1, none⟩ = some (.int .i64 0) := (blk_cell BK125.out 1).trans rfl; have hcz8_2 : w7.cell? ⟨gb125, 2, none⟩ = some (.int .i64 0) := (blk_cell BK125.out 2).trans rfl; have hcz8_3 : w7.cell? ⟨gb125, 3, none⟩ = some (.int .i64 0) := (blk_cell BK125.out 3).trans rfl; have hfz8_0 := blk_frozen BK125.out 0; have hfz8_1 := blk_frozen BK125.out 1; have hfz8_2 := blk_frozen BK125.out 2; have hfz8_3 := blk_frozen BK125.out 3)))
      (try simp only [Act.put, List.setIfInBounds_toArray, List.set_cons_zero, List.set_cons_succ])
      go_cut [20] (fun v20 wc => ∃ (kq : Nat) (x20_5 : Bool), v20 = .bool x20_5 ∧ Aside0 (spec_Good.j1 kq a0 l1 l1 (l1.length : Int) x9_1 x20_5 ((rd_T38 l1 x9_1).f0) ((rd_T38 l1 x9_1).f1) ((rd_T38 l1 x9_1).f2) ((rd_T38 l1 x9_1).f3) = some r) ∧ Aside0 (kq ≤ k1) ∧ Aside0 (wc.heap[gb125]? = some (.cells #[.bool ((rd_T38 l1 x9_1).f0), .int .i64 ((rd_T38 l1 x9_1).f1), .int .i64 ((rd_T38 l1 x9_1).f2), .int .i64 ((rd_T38 l1 x9_1).f3)] 38 (0, 0))) ∧ Aside0 (Below w.heap.size w wc))
      case first =>
       have H := HC6.out
       clear HC6
       by_cases c9 : ((rd_T38 l1 x9_1).f3) < 1
       ·rw [if_pos c9] at H
        have c9b0 : decide (((rd_T38 l1 x9_1).f3) < 1) = true := decide_eq_true c9
        clear c9
        (first | rw [c9b0] | (simp only [i64_w, i32_w]; rw [c9b0]) | skip)
        have H' := Aside0.mk H
        clear H
        have hcz10_0 : w7.cell? ⟨gb125, 0, none⟩ = some (.bool false) := (blk_cell BK125.out 0).trans rfl
        have hcz10_1 : w7.cell? ⟨gb125, 1, none⟩ = some (.int .i64 0) := (blk_cell BK125.out 1).trans rfl
        have hcz10_2 : w7.cell? ⟨gb125, 2, none⟩ = some (.int .i64 0) := (blk_cell BK125.out 2).trans rfl
        have hcz10_3 : w7.cell? ⟨gb125, 3, none⟩ = some (.int .i64 0) := (blk_cell BK125.out 3).trans rfl
        have hfz10_0 := blk_frozen BK125.out 0
        have hfz10_1 := blk_frozen BK125.out 1
        have hfz10_2 := blk_frozen BK125.out 2
        have hfz10_3 := blk_frozen BK125.out 3
        go_wp2
        repeat (go_quiet (fail); try go_wp2)
        go_meet
        case rel => exact ⟨_, (true), (by first | rfl | (simp; done) | (simp [*]; done)), H', ⟨by have := HK1.out; first | omega | exact Nat.le_refl _⟩, ⟨by (with_reducible repeat (first | refine blk_drewN ?_ _ | refine blk_drew ?_ | refine blk_alloc ?_ _)); refine blk_put (cs := #[.bool ((rd_T38 l1 x9_1).f0), .int .i64 ((rd_T38 l1 x9_1).f1), .int .i64 ((rd_T38 l1 x9_1).f2), .int .i64 0]) ?_ 3 _ rfl; (with_reducible repeat (first | refine blk_drewN ?_ _ | refine blk_drew ?_ | refine blk_alloc ?_ _)); refine blk_put (cs := #[.bool ((rd_T38 l1 x9_1).f0), .int .i64 ((rd_T38 l1 x9_1).f1), .int .i64 0, .int .i64 0]) ?_ 2 _ rfl; (with_reducible repeat (first | refine blk_drewN ?_ _ | refine blk_drew ?_ | refine blk_alloc ?_ _)); refine blk_put (cs := #[.bool ((rd_T38 l1 x9_1).f0), .int .i64 0, .int .i64 0, .int .i64 0]) ?_ 1 _ rfl; (with_reducible repeat (first | refine blk_drewN ?_ _ | refine blk_drew ?_ | refine blk_alloc ?_ _)); refine blk_put (cs := #[.bool false, .int .i64 0, .int .i64 0, .int .i64 0]) ?_ 0 _ rfl; (with_reducible repeat (first | refine blk_drewN ?_ _ | refine blk_drew ?_ | refine blk_alloc ?_ _)); exact BK125.out⟩, ⟨by repeat (first | (with_reducible first | exact HB.out | apply below_alloc | apply pw_below_drewN | apply below_drew1 | refine below_set ?_ GE125.out) | exact HB.out)⟩⟩
       ·rw [if_neg c9] at H
        have c9b0 : decide (((rd_T38 l1 x9_1).f3) < 1) = false := decide_eq_false c9
        clear c9
        (first | rw [c9b0] | (simp only [i64_w, i32_w]; rw [c9b0]) | skip)
        have H' := Aside0.mk H
        clear H
        have hcz11_0 : w7.cell? ⟨gb125, 0, none⟩ = some (.bool false) := (blk_cell BK125.out 0).trans rfl
        have hcz11_1 : w7.cell? ⟨gb125, 1, none⟩ = some (.int .i64 0) := (blk_cell BK125.out 1).trans rfl
        have hcz11_2 : w7.cell? ⟨gb125, 2, none⟩ = some (.int .i64 0) := (blk_cell BK125.out 2).trans rfl
        have hcz11_3 : w7.cell? ⟨gb125, 3, none⟩ = some (.int .i64 0) := (blk_cell BK125.out 3).trans rfl
        have hfz11_0 := blk_frozen BK125.out 0
        have hfz11_1 := blk_frozen BK125.out 1
        have hfz11_2 := blk_frozen BK125.out 2
        have hfz11_3 := blk_frozen BK125.out 3
        go_wp2
        repeat (go_quiet (fail); try go_wp2)
        go_meet
        case rel => exact ⟨_, (decide (((rd_T38 l1 x9_1).f3) > 60)), (by first | rfl | (simp; done) | (simp [*]; done)), H', ⟨by have := HK1.out; first | omega | exact Nat.le_refl _⟩, ⟨by (with_reducible repeat (first | refine blk_drewN ?_ _ | refine blk_drew ?_ | refine blk_alloc ?_ _)); refine blk_put (cs := #[.bool ((rd_T38 l1 x9_1).f0), .int .i64 ((rd_T38 l1 x9_1).f1), .int .i64 ((rd_T38 l1 x9_1).f2), .int .i64 0]) ?_ 3 _ rfl; (with_reducible repeat (first | refine blk_drewN ?_ _ | refine blk_drew ?_ | refine blk_alloc ?_ _)); refine blk_put (cs := #[.bool ((rd_T38 l1 x9_1).f0), .int .i64 ((rd_T38 l1 x9_1).f1), .int .i64 0, .int .i64 0]) ?_ 2 _ rfl; (with_reducible repeat (first | refine blk_drewN ?_ _ | refine blk_drew ?_ | refine blk_alloc ?_ _)); refine blk_put (cs := #[.bool ((rd_T38 l1 x9_1).f0), .int .i64 0, .int .i64 0, .int .i64 0]) ?_ 1 _ rfl; (with_reducible repeat (first | refine blk_drewN ?_ _ | refine blk_drew ?_ | refine blk_alloc ?_ _)); refine blk_put (cs := #[.bool false, .int .i64 0, .int .i64 0, .int .i64 0]) ?_ 0 _ rfl; (with_reducible repeat (first | refine blk_drewN ?_ _ | refine blk_drew ?_ | refine blk_alloc ?_ _)); exact BK125.out⟩, ⟨by repeat (first | (with_reducible first | exact HB.out | apply below_alloc | apply pw_below_drewN | apply below_drew1 | refine below_set ?_ GE125.out) | exact HB.out)⟩⟩
      case rest =>
       clear HC6
       try clear c1
       try clear p1
       try clear q1
       try clear hx1
       try clear p2
       try clear c3
       try clear c3b0
       try clear c4
       try clear c4b0
       try clear c5
       try clear c5b0
       try clear c9
       try clear c9b0
       try clear hcz10_0
       try clear hcz10_1
       try clear hcz10_2
       try clear hcz10_3
       try clear hcz11_0
       try clear hcz11_1
       try clear hcz11_2
       try clear hcz11_3
       try clear hcz8_0
       try clear hcz8_1
       try clear hcz8_2
       try clear hcz8_3
       try clear hfz10_0
       try clear hfz10_1
       try clear hfz10_2
       try clear hfz10_3
       try clear hfz11_0
       try clear hfz11_1
       try clear hfz11_2
       try clear hfz11_3
       try clear hfz8_0
       try clear hfz8_1
       try clear hfz8_2
       try clear hfz8_3
       try clear hx124_0
       try clear hx124_1
       try clear hx124_2
       try clear hx124_3
       try clear p124
       try clear p2
       try clear q124
       obtain ⟨kq, x20_5, rfl, HA, HJ5, BK125, HB⟩ := hcut
       cases kq with
       | zero => exact absurd HA.out (by simp [spec_Good.j1])
       | succ kj5 =>
        have H := HA.out
        clear HA
        simp only [spec_Good.j1] at H
        by_cases c12 : x20_5 = true
        ·subst c12
         have H1 : (some false) = some r := by rw [if_pos rfl] at H; exact H
         clear H
         have H := H1
         clear H1
         obtain rfl := Option.some.inj H
         go_wp2
         repeat (go_quiet (fail); try go_wp2)
         go_ret
         exact ⟨by first | rfl | (simp [errW_none, errW_some] <;> rfl) | (simp [*, errW_none, errW_some] <;> rfl), by repeat (first | (with_reducible first | exact HB.out | apply below_alloc | apply pw_below_drewN | apply below_drew1 | refine below_set ?_ GE125.out) | exact HB.out)⟩
        ·replace c12 := Bool.eq_false_iff.mpr c12
         subst c12
         have H1 : (if ((rd_T38 l1 x9_1).f0) = true then (spec_Good.l0 kj5 a0 l1 l1 (l1.length : Int) (wrap64 (x9_1 + 1))) else ((spec_Low.f a0).bind fun t126 => (if ((rd_T38 l1 x9_1).f1) < t126 then (some false) else ((spec_High.f a0).bind fun t127 => (if ((rd_T38 l1 x9_1).f2) > t127 then (some false) else (if ((rd_T38 l1 x9_1).f1) > ((rd_T38 l1 x9_1).f2) then (some false) else (spec_Good.l0 kj5 a0 l1 l1 (l1.length : Int) (wrap64 (x9_1 + 1))))))))) = some r := by rw [if_neg (show ¬ (false = true) by decide)] at H; exact H
         clear H
         have H := H1
         clear H1
         by_cases c13 : ((rd_T38 l1 x9_1).f0) = true
         ·rw [if_pos c13] at H
          have c13b0 : ((rd_T38 l1 x9_1).f0) = true := c13
          clear c13
          have H' := Aside0.mk H
          clear H
          have hcz14_0 : wc.cell? ⟨gb125, 0, none⟩ = some (.bool ((rd_T38 l1 x9_1).f0)) := (blk_cell BK125.out 0).trans rfl
          have hcz14_1 : wc.cell? ⟨gb125, 1, none⟩ = some (.int .i64 ((rd_T38 l1 x9_1).f1)) := (blk_cell BK125.out 1).trans rfl
          have hcz14_2 : wc.cell? ⟨gb125, 2, none⟩ = some (.int .i64 ((rd_T38 l1 x9_1).f2)) := (blk_cell BK125.out 2).trans rfl
          have hcz14_3 : wc.cell? ⟨gb125, 3, none⟩ = some (.int .i64 ((rd_T38 l1 x9_1).f3)) := (blk_cell BK125.out 3).trans rfl
          have hfz14_0 := blk_frozen BK125.out 0
          have hfz14_1 := blk_frozen BK125.out 1
          have hfz14_2 := blk_frozen BK125.out 2
          have hfz14_3 := blk_frozen BK125.out 3
          go_wp2
          repeat (go_quiet (fail); try go_wp2)
          go_roundg kj5
          case measure => have := HK1.out; have := HJ5.out; omega
          case rel => exact ⟨(wrap64 (x9_1 + 1)), (by first | rfl | (simp; done) | (simp [*]; done)), H', ⟨by have := HK1.out; have := HJ5.out; omega⟩, ⟨by repeat (first | (with_reducible first | exact HB.out | apply below_alloc | apply pw_below_drewN | apply below_drew1 | refine below_set ?_ GE125.out) | exact HB.out)⟩⟩
         ·rw [if_neg c13] at H
          have c13b0 : ((rd_T38 l1 x9_1).f0) = false := by simpa using c13
          clear c13
          replace H := Option.bind_eq_some_iff.mp H
          obtain ⟨t126, A150, H⟩ := H
          replace H : (if ((rd_T38 l1 x9_1).f1) < t126 then (some false) else ((spec_High.f a0).bind fun t127 => (if ((rd_T38 l1 x9_1).f2) > t127 then (some false) else (if ((rd_T38 l1 x9_1).f1) > ((rd_T38 l1 x9_1).f2) then (some false) else (spec_Good.l0 kj5 a0 l1 l1 (l1.length : Int) (wrap64 (x9_1 + 1))))))) = some r := H
          have A15 := Aside0.mk A150
          clear A150
          by_cases c16 : ((rd_T38 l1 x9_1).f1) < t126
          ·rw [if_pos c16] at H
           have c16b0 : decide (((rd_T38 l1 x9_1).f1) < t126) = true := decide_eq_true c16
           clear c16
           obtain rfl := Option.some.inj H
           have hcz17_0 : wc.cell? ⟨gb125, 0, none⟩ = some (.bool ((rd_T38 l1 x9_1).f0)) := (blk_cell BK125.out 0).trans rfl
           have hcz17_1 : wc.cell? ⟨gb125, 1, none⟩ = some (.int .i64 ((rd_T38 l1 x9_1).f1)) := (blk_cell BK125.out 1).trans rfl
           have hcz17_2 : wc.cell? ⟨gb125, 2, none⟩ = some (.int .i64 ((rd_T38 l1 x9_1).f2)) := (blk_cell BK125.out 2).trans rfl
           have hcz17_3 : wc.cell? ⟨gb125, 3, none⟩ = some (.int .i64 ((rd_T38 l1 x9_1).f3)) := (blk_cell BK125.out 3).trans rfl
           have hfz17_0 := blk_frozen BK125.out 0
           have hfz17_1 := blk_frozen BK125.out 1
           have hfz17_2 := blk_frozen BK125.out 2
           have hfz17_3 := blk_frozen BK125.out 3
           go_wp2_with (first | (go_at_call 20; (with_reducible refine (spec_Low.calls a0 t126 _ A15.out).mono ?_); rintro e w' ⟨rfl, ⟨nd, rfl⟩⟩; (try first | exact ⟨rfl, _, World.drewN_drewN _ _ _⟩ | exact ⟨rfl, _, Eq.trans (World.drewN_drewN _ _ _) (congrArg (World.drewN _) (Nat.add_assoc _ _ _))⟩)))
           repeat (go_quiet (first | (go_at_call 20; (with_reducible refine (spec_Low.calls a0 t126 _ A15.out).mono ?_); rintro e w' ⟨rfl, ⟨nd, rfl⟩⟩; (try first | exact ⟨rfl, _, World.drewN_drewN _ _ _⟩ | exact ⟨rfl, _, Eq.trans (World.drewN_drewN _ _ _) (congrArg (World.drewN _) (Nat.add_assoc _ _ _))⟩))); try go_wp2_with (first | (go_at_call 20; (with_reducible refine (spec_Low.calls a0 t126 _ A15.out).mono ?_); rintro e w' ⟨rfl, ⟨nd, rfl⟩⟩; (try first | exact ⟨rfl, _, World.drewN_drewN _ _ _⟩ | exact ⟨rfl, _, Eq.trans (World.drewN_drewN _ _ _) (congrArg (World.drewN _) (Nat.add_assoc _ _ _))⟩))))
           go_ret
           exact ⟨by first | rfl | (simp [errW_none, errW_some] <;> rfl) | (simp [*, errW_none, errW_some] <;> rfl), by repeat (first | (with_reducible first | exact HB.out | apply below_alloc | apply pw_below_drewN | apply below_drew1 | refine below_set ?_ GE125.out) | exact HB.out)⟩
          ·rw [if_neg c16] at H
           have c16b0 : decide (((rd_T38 l1 x9_1).f1) < t126) = false := decide_eq_false c16
           clear c16
           replace H := Option.bind_eq_some_iff.mp H
           obtain ⟨t127, A180, H⟩ := H
           replace H : (if ((rd_T38 l1 x9_1).f2) > t127 then (some false) else (if ((rd_T38 l1 x9_1).f1) > ((rd_T38 l1 x9_1).f2) then (some false) else (spec_Good.l0 kj5 a0 l1 l1 (l1.length : Int) (wrap64 (x9_1 + 1))))) = some r := H
           have A18 := Aside0.mk A180
           clear A180
           by_cases c19 : ((rd_T38 l1 x9_1).f2) > t127
           ·rw [if_pos c19] at H
            have c19b0 : decide (t127 < ((rd_T38 l1 x9_1).f2)) = true := decide_eq_true c19
            clear c19
            obtain rfl := Option.some.inj H
            have hcz20_0 : wc.cell? ⟨gb125, 0, none⟩ = some (.bool ((rd_T38 l1 x9_1).f0)) := (blk_cell BK125.out 0).trans rfl
            have hcz20_1 : wc.cell? ⟨gb125, 1, none⟩ = some (.int .i64 ((rd_T38 l1 x9_1).f1)) := (blk_cell BK125.out 1).trans rfl
            have hcz20_2 : wc.cell? ⟨gb125, 2, none⟩ = some (.int .i64 ((rd_T38 l1 x9_1).f2)) := (blk_cell BK125.out 2).trans rfl
            have hcz20_3 : wc.cell? ⟨gb125, 3, none⟩ = some (.int .i64 ((rd_T38 l1 x9_1).f3)) := (blk_cell BK125.out 3).trans rfl
            have hfz20_0 := blk_frozen BK125.out 0
            have hfz20_1 := blk_frozen BK125.out 1
            have hfz20_2 := blk_frozen BK125.out 2
            have hfz20_3 := blk_frozen BK125.out 3
            go_wp2_with (first | (go_at_call 20; (with_reducible refine (spec_Low.calls a0 t126 _ A15.out).mono ?_); rintro e w' ⟨rfl, ⟨nd, rfl⟩⟩; (try first | exact ⟨rfl, _, World.drewN_drewN _ _ _⟩ | exact ⟨rfl, _, Eq.trans (World.drewN_drewN _ _ _) (congrArg (World.drewN _) (Nat.add_assoc _ _ _))⟩)) | (go_at_call 21; (with_reducible refine (spec_High.calls a0 t127 _ A18.out).mono ?_); rintro e w' ⟨rfl, ⟨nd, rfl⟩⟩; (try first | exact ⟨rfl, _, World.drewN_drewN _ _ _⟩ | exact ⟨rfl, _, Eq.trans (World.drewN_drewN _ _ _) (congrArg (World.drewN _) (Nat.add_assoc _ _ _))⟩)))
            repeat (go_quiet (first | (go_at_call 20; (with_reducible refine (spec_Low.calls a0 t126 _ A15.out).mono ?_); rintro e w' ⟨rfl, ⟨nd, rfl⟩⟩; (try first | exact ⟨rfl, _, World.drewN_drewN _ _ _⟩ | exact ⟨rfl, _, Eq.trans (World.drewN_drewN _ _ _) (congrArg (World.drewN _) (Nat.add_assoc _ _ _))⟩)) | (go_at_call 21; (with_reducible refine (spec_High.calls a0 t127 _ A18.out).mono ?_); rintro e w' ⟨rfl, ⟨nd, rfl⟩⟩; (try first | exact ⟨rfl, _, World.drewN_drewN _ _ _⟩ | exact ⟨rfl, _, Eq.trans (World.drewN_drewN _ _ _) (congrArg (World.drewN _) (Nat.add_assoc _ _ _))⟩))); try go_wp2_with (first | (go_at_call 20; (with_reducible refine (spec_Low.calls a0 t126 _ A15.out).mono ?_); rintro e w' ⟨rfl, ⟨nd, rfl⟩⟩; (try first | exact ⟨rfl, _, World.drewN_drewN _ _ _⟩ | exact ⟨rfl, _, Eq.trans (World.drewN_drewN _ _ _) (congrArg (World.drewN _) (Nat.add_assoc _ _ _))⟩)) | (go_at_call 21; (with_reducible refine (spec_High.calls a0 t127 _ A18.out).mono ?_); rintro e w' ⟨rfl, ⟨nd, rfl⟩⟩; (try first | exact ⟨rfl, _, World.drewN_drewN _ _ _⟩ | exact ⟨rfl, _, Eq.trans (World.drewN_drewN _ _ _) (congrArg (World.drewN _) (Nat.add_assoc _ _ _))⟩))))
            go_ret
            exact ⟨by first | rfl | (simp [errW_none, errW_some] <;> rfl) | (simp [*, errW_none, errW_some] <;> rfl), by repeat (first | (with_reducible first | exact HB.out | apply below_alloc | apply pw_below_drewN | apply below_drew1 | refine below_set ?_ GE125.out) | exact HB.out)⟩
           ·rw [if_neg c19] at H
            have c19b0 : decide (t127 < ((rd_T38 l1 x9_1).f2)) = false := decide_eq_false c19
            clear c19
            by_cases c21 : ((rd_T38 l1 x9_1).f1) > ((rd_T38 l1 x9_1).f2)
            ·rw [if_pos c21] at H
             have c21b0 : decide (((rd_T38 l1 x9_1).f2) < ((rd_T38 l1 x9_1).f1)) = true := decide_eq_true c21
             clear c21
             obtain rfl := Option.some.inj H
             have hcz22_0 : wc.cell? ⟨gb125, 0, none⟩ = some (.bool ((rd_T38 l1 x9_1).f0)) := (blk_cell BK125.out 0).trans rfl
             have hcz22_1 : wc.cell? ⟨gb125, 1, none⟩ = some (.int .i64 ((rd_T38 l1 x9_1).f1)) := (blk_cell BK125.out 1).trans rfl
             have hcz22_2 : wc.cell? ⟨gb125, 2, none⟩ = some (.int .i64 ((rd_T38 l1 x9_1).f2)) := (blk_cell BK125.out 2).trans rfl
             have hcz22_3 : wc.cell? ⟨gb125, 3, none⟩ = some (.int .i64 ((rd_T38 l1 x9_1).f3)) := (blk_cell BK125.out 3).trans rfl
             have hfz22_0 := blk_frozen BK125.out 0
             have hfz22_1 := blk_frozen BK125.out 1
             have hfz22_2 := blk_frozen BK125.out 2
             have hfz22_3 := blk_frozen BK125.out 3
             go_wp2_with (first | (go_at_call 20; (with_reducible refine (spec_Low.calls a0 t126 _ A15.out).mono ?_); rintro e w' ⟨rfl, ⟨nd, rfl⟩⟩; (try first | exact ⟨rfl, _, World.drewN_drewN _ _ _⟩ | exact ⟨rfl, _, Eq.trans (World.drewN_drewN _ _ _) (congrArg (World.drewN _) (Nat.add_assoc _ _ _))⟩)) | (go_at_call 21; (with_reducible refine (spec_High.calls a0 t127 _ A18.out).mono ?_); rintro e w' ⟨rfl, ⟨nd, rfl⟩⟩; (try first | exact ⟨rfl, _, World.drewN_drewN _ _ _⟩ | exact ⟨rfl, _, Eq.trans (World.drewN_drewN _ _ _) (congrArg (World.drewN _) (Nat.add_assoc _ _ _))⟩)))
             repeat (go_quiet (first | (go_at_call 20; (with_reducible refine (spec_Low.calls a0 t126 _ A15.out).mono ?_); rintro e w' ⟨rfl, ⟨nd, rfl⟩⟩; (try first | exact ⟨rfl, _, World.drewN_drewN _ _ _⟩ | exact ⟨rfl, _, Eq.trans (World.drewN_drewN _ _ _) (congrArg (World.drewN _) (Nat.add_assoc _ _ _))⟩)) | (go_at_call 21; (with_reducible refine (spec_High.calls a0 t127 _ A18.out).mono ?_); rintro e w' ⟨rfl, ⟨nd, rfl⟩⟩; (try first | exact ⟨rfl, _, World.drewN_drewN _ _ _⟩ | exact ⟨rfl, _, Eq.trans (World.drewN_drewN _ _ _) (congrArg (World.drewN _) (Nat.add_assoc _ _ _))⟩))); try go_wp2_with (first | (go_at_call 20; (with_reducible refine (spec_Low.calls a0 t126 _ A15.out).mono ?_); rintro e w' ⟨rfl, ⟨nd, rfl⟩⟩; (try first | exact ⟨rfl, _, World.drewN_drewN _ _ _⟩ | exact ⟨rfl, _, Eq.trans (World.drewN_drewN _ _ _) (congrArg (World.drewN _) (Nat.add_assoc _ _ _))⟩)) | (go_at_call 21; (with_reducible refine (spec_High.calls a0 t127 _ A18.out).mono ?_); rintro e w' ⟨rfl, ⟨nd, rfl⟩⟩; (try first | exact ⟨rfl, _, World.drewN_drewN _ _ _⟩ | exact ⟨rfl, _, Eq.trans (World.drewN_drewN _ _ _) (congrArg (World.drewN _) (Nat.add_assoc _ _ _))⟩))))
             go_ret
             exact ⟨by first | rfl | (simp [errW_none, errW_some] <;> rfl) | (simp [*, errW_none, errW_some] <;> rfl), by repeat (first | (with_reducible first | exact HB.out | apply below_alloc | apply pw_below_drewN | apply below_drew1 | refine below_set ?_ GE125.out) | exact HB.out)⟩
            ·rw [if_neg c21] at H
             have c21b0 : decide (((rd_T38 l1 x9_1).f2) < ((rd_T38 l1 x9_1).f1)) = false := decide_eq_false c21
             clear c21
             have H' := Aside0.mk H
             clear H
             have hcz23_0 : wc.cell? ⟨gb125, 0, none⟩ = some (.bool ((rd_T38 l1 x9_1).f0)) := (blk_cell BK125.out 0).trans rfl
             have hcz23_1 : wc.cell? ⟨gb125, 1, none⟩ = some (.int .i64 ((rd_T38 l1 x9_1).f1)) := (blk_cell BK125.out 1).trans rfl
             have hcz23_2 : wc.cell? ⟨gb125, 2, none⟩ = some (.int .i64 ((rd_T38 l1 x9_1).f2)) := (blk_cell BK125.out 2).trans rfl
             have hcz23_3 : wc.cell? ⟨gb125, 3, none⟩ = some (.int .i64 ((rd_T38 l1 x9_1).f3)) := (blk_cell BK125.out 3).trans rfl
             have hfz23_0 := blk_frozen BK125.out 0
             have hfz23_1 := blk_frozen BK125.out 1
             have hfz23_2 := blk_frozen BK125.out 2
             have hfz23_3 := blk_frozen BK125.out 3
             go_wp2_with (first | (go_at_call 20; (with_reducible refine (spec_Low.calls a0 t126 _ A15.out).mono ?_); rintro e w' ⟨rfl, ⟨nd, rfl⟩⟩; (try first | exact ⟨rfl, _, World.drewN_drewN _ _ _⟩ | exact ⟨rfl, _, Eq.trans (World.drewN_drewN _ _ _) (congrArg (World.drewN _) (Nat.add_assoc _ _ _))⟩)) | (go_at_call 21; (with_reducible refine (spec_High.calls a0 t127 _ A18.out).mono ?_); rintro e w' ⟨rfl, ⟨nd, rfl⟩⟩; (try first | exact ⟨rfl, _, World.drewN_drewN _ _ _⟩ | exact ⟨rfl, _, Eq.trans (World.drewN_drewN _ _ _) (congrArg (World.drewN _) (Nat.add_assoc _ _ _))⟩)))
             repeat (go_quiet (first | (go_at_call 20; (with_reducible refine (spec_Low.calls a0 t126 _ A15.out).mono ?_); rintro e w' ⟨rfl, ⟨nd, rfl⟩⟩; (try first | exact ⟨rfl, _, World.drewN_drewN _ _ _⟩ | exact ⟨rfl, _, Eq.trans (World.drewN_drewN _ _ _) (congrArg (World.drewN _) (Nat.add_assoc _ _ _))⟩)) | (go_at_call 21; (with_reducible refine (spec_High.calls a0 t127 _ A18.out).mono ?_); rintro e w' ⟨rfl, ⟨nd, rfl⟩⟩; (try first | exact ⟨rfl, _, World.drewN_drewN _ _ _⟩ | exact ⟨rfl, _, Eq.trans (World.drewN_drewN _ _ _) (congrArg (World.drewN _) (Nat.add_assoc _ _ _))⟩))); try go_wp2_with (first | (go_at_call 20; (with_reducible refine (spec_Low.calls a0 t126 _ A15.out).mono ?_); rintro e w' ⟨rfl, ⟨nd, rfl⟩⟩; (try first | exact ⟨rfl, _, World.drewN_drewN _ _ _⟩ | exact ⟨rfl, _, Eq.trans (World.drewN_drewN _ _ _) (congrArg (World.drewN _) (Nat.add_assoc _ _ _))⟩)) | (go_at_call 21; (with_reducible refine (spec_High.calls a0 t127 _ A18.out).mono ?_); rintro e w' ⟨rfl, ⟨nd, rfl⟩⟩; (try first | exact ⟨rfl, _, World.drewN_drewN _ _ _⟩ | exact ⟨rfl, _, Eq.trans (World.drewN_drewN _ _ _) (congrArg (World.drewN _) (Nat.add_assoc _ _ _))⟩))))
             go_roundg kj5
             case measure => have := HK1.out; have := HJ5.out; omega
             case rel => exact ⟨(wrap64 (x9_1 + 1)), (by first | rfl | (simp; done) | (simp [*]; done)), H', ⟨by have := HK1.out; have := HJ5.out; omega⟩, ⟨by repeat (first | (with_reducible first | exact HB.out | apply below_alloc | apply pw_below_drewN | apply below_drew1 | refine below_set ?_ GE125.out) | exact HB.out)⟩⟩
     ·rw [if_neg c5] at H
      exact absurd H (by simp)
    ·rw [if_neg c4] at H
     exact absurd H (by simp)
   ·rw [if_neg c3] at H
    have c3b0 : decide (x9_1 < (l1.length : Int)) = false := decide_eq_false c3
    clear c3
    by_cases c24 : (l1.length : Int) ≥ 1
    ·rw [if_pos c24] at H
     have c24b0 : decide (1 ≤ (l1.length : Int)) = true := decide_eq_true c24
     have c24b1 : decide (1 ≤ l1.length) = true := decide_eq_true (by omega)
     clear c24
     obtain rfl := Option.some.inj H
     go_wp2
     repeat (go_quiet (fail); try go_wp2)
     go_ret
     exact ⟨by first | rfl | (simp [errW_none, errW_some] <;> rfl) | (simp [*, errW_none, errW_some] <;> rfl), by repeat (first | (with_reducible first | exact HB.out | apply below_alloc | apply pw_below_drewN | apply below_drew1) | exact HB.out)⟩
    ·rw [if_neg c24] at H
     have c24b0 : decide (1 ≤ (l1.length : Int)) = false := decide_eq_false c24
     have c24b1 : decide (1 ≤ l1.length) = false := decide_eq_false (by omega)
     clear c24
     obtain rfl := Option.some.inj H
     go_wp2
     repeat (go_quiet (fail); try go_wp2)
     go_ret
     exact ⟨by first | rfl | (simp [errW_none, errW_some] <;> rfl) | (simp [*, errW_none, errW_some] <;> rfl), by repeat (first | (with_reducible first | exact HB.out | apply below_alloc | apply pw_below_drewN | apply below_drew1) | exact HB.out)⟩
end Go.Proofs.YtemgofomhjabpaaGreatDoor.Core
namespace Go.Proofs.YtemgofomhjabpaaGreatDoor.Core
open Go.RowKit Go.Proofs.YtemgofomhjabpaaGreatDoorW.PrintWords Go.Proofs.YtemgofomhjabpaaGreatDoorW.PrintLast Go.Proofs.YtemgofomhjabpaaGreatDoorW.PrintMore
attribute [local go_sem] max2_int min2_int max_two min_two max_three min_three max_four min_four   -- for this text's walks alone
set_option linter.unusedVariables false
set_option linter.unusedSimpArgs false
def spec_Star.f (l0 : List (S38)) : Option (Bool) := if (l0.length : Int) = 1 then (if 0 < (l0.length : Int) then (if (rd_T38 l0 0).f0 = true then (some (((rd_T38 l0 0).f3) == 1)) else (some false)) else (none)) else (some false)
set_option maxHeartbeats 8000000 in
set_option maxRecDepth 100000 in
theorem spec_Star.calls (A0 : Option Addr) (c0 : Nat) (l0 : List (S38)) (r : Bool) (w : World) (hr0 : Kd.C k38 w A0 l0.length l0) (hc0 : l0.length ≤ c0) (h : spec_Star.f l0 = some r) :
  Calls Tryz.prog 17 #[.slice A0 l0.length c0] w fun e w' => e = .returned (.bool r) ∧ Drawn0 w w' := by
 have HR0 := Aside0.mk hr0
 have HC0 := Aside0.mk hc0
 clear hr0 hc0
 have H : (if (l0.length : Int) = 1 then (if 0 < (l0.length : Int) then (if (rd_T38 l0 0).f0 = true then (some (((rd_T38 l0 0).f3) == 1)) else (some false)) else (none)) else (some false)) = some r := h
 clear h
 by_cases c2 : (l0.length : Int) = 1
 ·rw [if_pos c2] at H
  have c2b0 : ((l0.length : Int) == 1) = true := beq_iff_eq.mpr c2
  have c2b1 : ((l0.length : Int) != 1) = false := bne_eq_false_iff_eq.mpr c2
  clear c2
  by_cases c3 : 0 < (l0.length : Int)
  ·rw [if_pos c3] at H
   have c3b0 : decide (0 < (l0.length : Int)) = true := decide_eq_true c3
   have c3b1 : decide (0 < l0.length) = true := decide_eq_true (by omega)
   clear c3
   obtain ⟨bq4, hbq4⟩ : ∃ b_ : Bool, b_ = ((rd_T38 l0 0).f0) := ⟨_, rfl⟩
   replace H : (if bq4 = true then (some (((rd_T38 l0 0).f3) == 1)) else (some false)) = some r := by rw [← hbq4] at H; exact H
   have Nbq4 := Aside0.mk hbq4
   clear hbq4
   by_cases c5 : bq4 = true
   ·subst c5
    have H1 : (some (((rd_T38 l0 0).f3) == 1)) = some r := by rw [if_pos rfl] at H; exact H
    clear H
    have H := H1
    clear H1
    obtain rfl := Option.some.inj H
    have p121 : 0 ≤ (0 : Int) := (by omega)
    have q121 : 0 < (l0.length : Int) := of_decide_eq_true (by first | (with_reducible assumption) | assumption)
    obtain ⟨ad121, e121, hx121_0, hx121_1, hx121_2, hx121_3⟩ := at_T38 HR0.out 0 p121 q121
    (try rw [← Nbq4.out] at hx121_0)
    cases e121
    have qi121 : (0 < l0.length) = True := eq_true (by omega)
    (try rw [show ((0 : Int)).toNat = 0 from rfl] at hx121_0)
    (try rw [show 0 * 4 = 0 from rfl] at hx121_0)
    (try rw [Addr.add_zero'] at hx121_0)
    (try rw [show ((0 : Int)).toNat = 0 from rfl] at hx121_1)
    (try rw [show 0 * 4 = 0 from rfl] at hx121_1)
    (try rw [Addr.add_zero'] at hx121_1)
    (try rw [show ((0 : Int)).toNat = 0 from rfl] at hx121_2)
    (try rw [show 0 * 4 = 0 from rfl] at hx121_2)
    (try rw [Addr.add_zero'] at hx121_2)
    (try rw [show ((0 : Int)).toNat = 0 from rfl] at hx121_3)
    (try rw [show 0 * 4 = 0 from rfl] at hx121_3)
    (try rw [Addr.add_zero'] at hx121_3)
    replace p121 := eq_true p121
    replace q121 := eq_true q121
    have p122 : 0 ≤ (0 : Int) := (by omega)
    have q122 : 0 < (l0.length : Int) := of_decide_eq_true (by first | (with_reducible assumption) | assumption)
    obtain ⟨ad122, e122, hx122_0, hx122_1, hx122_2, hx122_3⟩ := at_T38 HR0.out 0 p122 q122
    (try rw [← Nbq4.out] at hx122_0)
    obtain rfl : ad121 = ad122 := (by injection e122)
    have qi122 : (0 < l0.length) = True := eq_true (by omega)
    (try rw [show ((0 : Int)).toNat = 0 from rfl] at hx122_0)
    (try rw [show 0 * 4 = 0 from rfl] at hx122_0)
    (try rw [Addr.add_zero'] at hx122_0)
    (try rw [show ((0 : Int)).toNat = 0 from rfl] at hx122_1)
    (try rw [show 0 * 4 = 0 from rfl] at hx122_1)
    (try rw [Addr.add_zero'] at hx122_1)
    (try rw [show ((0 : Int)).toNat = 0 from rfl] at hx122_2)
    (try rw [show 0 * 4 = 0 from rfl] at hx122_2)
    (try rw [Addr.add_zero'] at hx122_2)
    (try rw [show ((0 : Int)).toNat = 0 from rfl] at hx122_3)
    (try rw [show 0 * 4 = 0 from rfl] at hx122_3)
    (try rw [Addr.add_zero'] at hx122_3)
    replace p122 := eq_true p122
    replace q122 := eq_true q122
    go_enter Tryz.func17, Tryz.ntmps17
    go_wp2
    go_ret
    exact ⟨by first | rfl | (simp; done) | (simp [*]; done), by repeat (first | exact Drawn0.refl _ | apply Drawn0.step)⟩
   ·replace c5 := Bool.eq_false_iff.mpr c5
    subst c5
    have H1 : (some false) = some r := by rw [if_neg (show ¬ (false = true) by decide)] at H; exact H
    clear H
    have H := H1
    clear H1
    obtain rfl := Option.some.inj H
    have p121 : 0 ≤ (0 : Int) := (by omega)
    have q121 : 0 < (l0.length : Int) := of_decide_eq_true (by first | (with_reducible assumption) | assumption)
    obtain ⟨ad121, e121, hx121_0, hx121_1, hx121_2, hx121_3⟩ := at_T38 HR0.out 0 p121 q121
    (try rw [← Nbq4.out] at hx121_0)
    cases e121
    have qi121 : (0 < l0.length) = True := eq_true (by omega)
    (try rw [show ((0 : Int)).toNat = 0 from rfl] at hx121_0)
    (try rw [show 0 * 4 = 0 from rfl] at hx121_0)
    (try rw [Addr.add_zero'] at hx121_0)
    (try rw [show ((0 : Int)).toNat = 0 from rfl] at hx121_1)
    (try rw [show 0 * 4 = 0 from rfl] at hx121_1)
    (try rw [Addr.add_zero'] at hx121_1)
    (try rw [show ((0 : Int)).toNat = 0 from rfl] at hx121_2)
    (try rw [show 0 * 4 = 0 from rfl] at hx121_2)
    (try rw [Addr.add_zero'] at hx121_2)
    (try rw [show ((0 : Int)).toNat = 0 from rfl] at hx121_3)
    (try rw [show 0 * 4 = 0 from rfl] at hx121_3)
    (try rw [Addr.add_zero'] at hx121_3)
    replace p121 := eq_true p121
    replace q121 := eq_true q121
    go_enter Tryz.func17, Tryz.ntmps17
    go_wp2
    go_ret
    exact ⟨by first | rfl | (simp; done) | (simp [*]; done), by repeat (first | exact Drawn0.refl _ | apply Drawn0.step)⟩
  ·rw [if_neg c3] at H
   exact absurd H (by simp)
 ·rw [if_neg c2] at H
  have c2b0 : ((l0.length : Int) == 1) = false := beq_eq_false_iff_ne.mpr c2
  have c2b1 : ((l0.length : Int) != 1) = true := bne_iff_ne.mpr c2
  obtain rfl := Option.some.inj H
  go_enter Tryz.func17, Tryz.ntmps17
  go_wp2
  go_ret
  exact ⟨by first | rfl | (simp; done) | (simp [*]; done), by repeat (first | exact Drawn0.refl _ | apply Drawn0.step)⟩
end Go.Proofs.YtemgofomhjabpaaGreatDoor.Core
namespace Go.Proofs.YtemgofomhjabpaaGreatDoor.Core
open Go.RowKit Go.Proofs.YtemgofomhjabpaaGreatDoorW.PrintWords Go.Proofs.YtemgofomhjabpaaGreatDoorW.PrintLast Go.Proofs.YtemgofomhjabpaaGreatDoorW.PrintMore
attribute [local go_sem] max2_int min2_int max_two min_two max_three min_three max_four min_four   -- for this text's walks alone
set_option linter.unusedVariables false
set_option linter.unusedSimpArgs false
attribute [local go_sem high] eqA38
mutual
def spec_ExprGood.l0 : Nat → List (List (S38)) → Int → Int → List (List (S38)) → Bool → Option (Bool)
 | 0, _, _, _, _, _ => none
 | k + 1, x12, x13, x14, x129000, x129001 => if x14 < x13 then (if 0 ≤ x14 then (if x14 < (x12.length : Int) then ((spec_Good.f k x14 (rd_L5 x12 x14)).bind fun t130 => (if t130 = true then (spec_ExprGood.l0 k x12 x13 (wrap64 (x14 + 1)) x129000 x129001) else (some false))) else (none)) else (none)) else (if x129001 = true then (spec_ExprGood.j1 k false x129000 x129001) else (if 0 < (x129000.length : Int) then (if ((rd_L5 x129000 0).length : Int) = 1 then (if 0 < ((rd_L5 x129000 0).length : Int) then (spec_ExprGood.j1 k (((rd_T38 (rd_L5 x129000 0) 0).f0) || (!(((rd_T38 (rd_L5 x129000 0) 0).f1) == 0) || (!(((rd_T38 (rd_L5 x129000 0) 0).f2) == 0) || (!(((rd_T38 (rd_L5 x129000 0) 0).f3) == 1))))) x129000 x129001) else (none)) else (spec_ExprGood.j1 k true x129000 x129001)) else (none)))
def spec_ExprGood.j1 : Nat → Bool → List (List (S38)) → Bool → Option (Bool)
 | 0, _, _, _ => none
 | k + 1, x44, x129000, x129001 => if x44 = true then (some false) else (if 3 < (x129000.length : Int) then ((spec_Star.f (rd_L5 x129000 3)).bind fun t135 => (if t135 = true then (spec_ExprGood.j2 k false x129000 x129001) else (if 5 < (x129000.length : Int) then ((spec_Star.f (rd_L5 x129000 5)).bind fun t137 => (spec_ExprGood.j2 k (!t137) x129000 x129001)) else (none)))) else (none))
def spec_ExprGood.j2 : Nat → Bool → List (List (S38)) → Bool → Option (Bool)
 | 0, _, _, _ => none
 | k + 1, x58, x129000, x129001 => if x58 = true then (some false) else (if 4 < (x129000.length : Int) then ((spec_Star.f (rd_L5 x129000 4)).bind fun t139 => (if t139 = true then (some true) else (if 3 < (x129000.length : Int) then (spec_ExprGood.l1 k (rd_L5 x129000 3) ((rd_L5 x129000 3).length : Int) 0) else (none)))) else (none))
def spec_ExprGood.l1 : Nat → List (S38) → Int → Int → Option (Bool)
 | 0, _, _, _ => none
 | k + 1, x68, x69, x70 => if x70 < x69 then (if 0 ≤ x70 then (if x70 < (x68.length : Int) then (if ((rd_T38 x68 x70).f0 = true) then (spec_ExprGood.l1 k x68 x69 (wrap64 (x70 + 1))) else (if ((rd_T38 x68 x70).f1) > 28 then (some false) else (spec_ExprGood.l1 k x68 x69 (wrap64 (x70 + 1))))) else (none)) else (none)) else (some true)
end
def spec_ExprGood.f (k : Nat) (l0_0 : List (List (S38))) (a0_1 : Bool) : Option (Bool) := if (l0_0.length : Int) = 6 then (spec_ExprGood.l0 k l0_0 (l0_0.length : Int) 0 l0_0 a0_1) else (some false)
set_option maxHeartbeats 8000000 in
set_option maxRecDepth 100000 in
theorem spec_ExprGood.calls (k : Nat) (A0_0 : Option Addr) (c0_0 : Nat) (l0_0 : List (List (S38))) (a0_1 : Bool) (r : Bool) (w : World) (hr0_0 : Kd.C (Kd.slice 38 k38) w A0_0 l0_0.length l0_0) (hc0_0 : l0_0.length ≤ c0_0) (h : spec_ExprGood.f k l0_0 a0_1 = some r) :
  Calls Tryz.prog 28 #[.agg #[.slice A0_0 l0_0.length c0_0, .bool a0_1]] w fun e w' => e = .returned (.bool r) ∧ Below w.heap.size w w' := by
 have hu30 := Tryz.underlying30
 have hu38 := Tryz.underlying38
 have HR0_0 := Aside0.mk hr0_0
 have HC0_0 := Aside0.mk hc0_0
 clear hr0_0 hc0_0
 have HB := Aside0.mk (Below.refl w.heap.size w)
 have H : (if (l0_0.length : Int) = 6 then (spec_ExprGood.l0 k l0_0 (l0_0.length : Int) 0 l0_0 a0_1) else (some false)) = some r := h
 clear h
 by_cases c2 : (l0_0.length : Int) = 6
 ·rw [if_pos c2] at H
  have c2b0 : ((l0_0.length : Int) == 6) = true := beq_iff_eq.mpr c2
  have c2b1 : ((l0_0.length : Int) != 6) = false := bne_eq_false_iff_eq.mpr c2
  clear c2
  have H' := Aside0.mk H
  clear H
  go_enter Tryz.func28, Tryz.ntmps28
  go_wp2_with (first | ((with_reducible refine gate_dst (N := 1) rfl ?_); (try (refine gate_guard (by rfl) ?_; dsimp only)); refine box_event ?hg (N := 1) ?hd (cs := #[.slice A0_0 l0_0.length c0_0, .bool a0_1]) (t := 30) ?hr ?_; (case hd => rfl); (case hg => rfl); (case hr => first | (go_simp; done) | (go_simp; rfl)); intro gb128 hg w3 hbox hb; have n0_ := Aside0.mk (below_step (by repeat (first | (with_reducible first | exact HB.out | apply below_alloc | apply pw_below_drewN | apply below_drew1) | exact HB.out)) hb); have n1_ := Aside0.mk (hbox); have n2_ := Aside0.mk ((by rw [hg]; exact (below_size (by repeat (first | (with_reducible first | exact HB.out | apply below_alloc | apply pw_below_drewN | apply below_drew1) | exact HB.out))) : w.heap.size ≤ gb128)); have n3_ := Aside0.mk ((by rw [hg]; exact (below_size (by repeat (first | (with_reducible first | exact HB.out | apply below_alloc | apply pw_below_drewN | apply below_drew1) | exact HB.out))) : w.heap.size ≤ gb128)); clear HB; have HB := n0_; have BK128 := n1_; have GW128 := n2_; have GE128 := n3_; clear n0_ n1_ n2_ n3_; clear hb hbox hg; have hcz4_0 : w3.cell? ⟨gb128, 0, none⟩ = some (.slice A0_0 l0_0.length c0_0) := (blk_cell BK128.out 0).trans rfl; have hcz4_1 : w3.cell? ⟨gb128, 1, none⟩ = some (.bool a0_1) := (blk_cell BK128.out 1).trans rfl; have hfz4_0 := blk_frozen BK128.out 0; have hfz4_1 := blk_frozen BK128.out 1))
  go_loopg [14] k (fun kq v14 w' => ∃ (x14_1 : Int), v14 = .int .i64 x14_1 ∧ Aside0 (spec_ExprGood.l0 kq l0_0 (l0_0.length : Int) x14_1 l0_0 a0_1 = some r) ∧ Aside0 (kq ≤ k) ∧ Aside0 (w'.heap[gb128]? = some (.cells #[(.slice A0_0 l0_0.length c0_0), .bool a0_1] 30 (0, 0))) ∧ Aside0 (Below w.heap.size w w'))
  case atStart => exact ⟨(0), (by first | rfl | (simp; done) | (simp [*]; done)), H', ⟨Nat.le_refl _⟩, ⟨by (with_reducible repeat (first | refine blk_drewN ?_ _ | refine blk_drew ?_ | refine blk_alloc ?_ _)); exact BK128.out⟩, ⟨by repeat (first | (with_reducible first | exact HB.out | apply below_alloc | apply pw_below_drewN | apply below_drew1 | refine below_set ?_ GE128.out) | exact HB.out)⟩⟩
  case round =>
   clear H'
   try clear c2
   try clear c2b0
   try clear c2b1
   try clear p2
   try clear hcz4_0
   try clear hcz4_1
   try clear hfz4_0
   try clear hfz4_1
   obtain ⟨x14_1, rfl, HA, HK1, BK128, HB⟩ := hrel
   cases gk with
   | zero => exact absurd HA.out (by simp [spec_ExprGood.l0])
   | succ k1 =>
    have H := HA.out
    clear HA
    simp only [spec_ExprGood.l0] at H
    by_cases c5 : x14_1 < (l0_0.length : Int)
    ·rw [if_pos c5] at H
     have c5b0 : decide (x14_1 < (l0_0.length : Int)) = true := decide_eq_true c5
     clear c5
     by_cases c6 : 0 ≤ x14_1
     ·rw [if_pos c6] at H
      have c6b0 : decide (0 ≤ x14_1) = true := decide_eq_true c6
      clear c6
      by_cases c7 : x14_1 < (l0_0.length : Int)
      ·rw [if_pos c7] at H
       have c7b0 : decide (x14_1 < (l0_0.length : Int)) = true := decide_eq_true c7
       clear c7
       replace H := Option.bind_eq_some_iff.mp H
       obtain ⟨t130, A80, H⟩ := H
       replace H : (if t130 = true then (spec_ExprGood.l0 k1 l0_0 (l0_0.length : Int) (wrap64 (x14_1 + 1)) l0_0 a0_1) else (some false)) = some r := H
       have A8 := Aside0.mk A80
       clear A80
       by_cases c9 : t130 = true
       ·subst c9
        have H1 : (spec_ExprGood.l0 k1 l0_0 (l0_0.length : Int) (wrap64 (x14_1 + 1)) l0_0 a0_1) = some r := by rw [if_pos rfl] at H; exact H
        clear H
        have H := H1
        clear H1
        have H' := Aside0.mk H
        clear H
        have p129 : 0 ≤ (x14_1 : Int) := of_decide_eq_true (by first | (with_reducible assumption) | assumption)
        have q129 : x14_1 < (l0_0.length : Int) := of_decide_eq_true (by first | (with_reducible assumption) | assumption)
        obtain ⟨ad129, A129_0, c129_0, e129, hx129_0, hl129_0, hi129_0⟩ := at_L5 HR0_0.out x14_1 p129 q129
        cases e129
        replace hx129_0 := (HB.out.cell (World.block_lt_of_cell? w _ hx129_0)).trans hx129_0
        have HR129_0 := Aside0.mk hi129_0
        have HC129_0 := Aside0.mk hl129_0
        clear hi129_0 hl129_0
        replace p129 := eq_true p129
        replace q129 := eq_true q129
        go_wp2_with (first | ((with_reducible refine gate_callee (f := 40) rfl ?_); refine goesL_ (some 21) rfl rfl Tryz.func40 (by kernel_rfl) rfl #[.int .i64 x14_1, .slice A129_0 (rd_L5 l0_0 x14_1).length c129_0] rfl (by (try simp only [List.map_toArray, List.map_cons, List.map_nil]); first | done | rfl | (simp only [List.length_drop, List.length_take]; rfl)) ?_; (with_reducible refine (spec_Good.calls k1 x14_1 _ _ (rd_L5 l0_0 x14_1) true _ ?side1 ?side2 A8.out).mono ?_); (case side1 => repeat (first | exact (Kd.C_below HR129_0.out HB.out) | (with_reducible refine Kd.C_alloc ?_ _) | (with_reducible refine Kd.C_drewN ?_ _) | (with_reducible refine Kd.C_drew ?_))); (case side2 => exact HC129_0.out); rintro e w10 ⟨rfl, hb⟩; refine ⟨_, rfl, ?_⟩; have n0_ := Aside0.mk (blk_below (g := gb128) (o := .cells #[.slice (some ad129) l0_0.length c0_0, .bool a0_1] 30 (0, 0)) (by (with_reducible repeat (first | refine blk_drewN ?_ _ | refine blk_drew ?_ | refine blk_alloc ?_ _)); exact BK128.out) hb); have n1_ := Aside0.mk (below_step (by repeat (first | (with_reducible first | exact HB.out | apply below_alloc | apply pw_below_drewN | apply below_drew1 | refine below_set ?_ GE128.out) | exact HB.out)) hb); clear BK128; clear HB; have BK128 := n0_; have HB := n1_; clear n0_ n1_; (try clear hb); (try clear hb2); (try clear hk); (try clear hi)))
        go_roundg k1
        case measure => have := HK1.out; omega
        case rel => exact ⟨(wrap64 (x14_1 + 1)), (by first | rfl | (simp; done) | (simp [*]; done)), H', ⟨by have := HK1.out; omega⟩, ⟨by (with_reducible repeat (first | refine blk_drewN ?_ _ | refine blk_drew ?_ | refine blk_alloc ?_ _)); exact BK128.out⟩, ⟨by repeat (first | (with_reducible first | exact HB.out | apply below_alloc | apply pw_below_drewN | apply below_drew1 | refine below_set ?_ GE128.out) | exact HB.out)⟩⟩
       ·replace c9 := Bool.eq_false_iff.mpr c9
        subst c9
        have H1 : (some false) = some r := by rw [if_neg (show ¬ (false = true) by decide)] at H; exact H
        clear H
        have H := H1
        clear H1
        obtain rfl := Option.some.inj H
        have p129 : 0 ≤ (x14_1 : Int) := of_decide_eq_true (by first | (with_reducible assumption) | assumption)
        have q129 : x14_1 < (l0_0.length : Int) := of_decide_eq_true (by first | (with_reducible assumption) | assumption)
        obtain ⟨ad129, A129_0, c129_0, e129, hx129_0, hl129_0, hi129_0⟩ := at_L5 HR0_0.out x14_1 p129 q129
        cases e129
        replace hx129_0 := (HB.out.cell (World.block_lt_of_cell? w _ hx129_0)).trans hx129_0
        have HR129_0 := Aside0.mk hi129_0
        have HC129_0 := Aside0.mk hl129_0
        clear hi129_0 hl129_0
        replace p129 := eq_true p129
        replace q129 := eq_true q129
        go_wp2_with (first | ((with_reducible refine gate_callee (f := 40) rfl ?_); refine goesL_ (some 21) rfl rfl Tryz.func40 (by kernel_rfl) rfl #[.int .i64 x14_1, .slice A129_0 (rd_L5 l0_0 x14_1).length c129_0] rfl (by (try simp only [List.map_toArray, List.map_cons, List.map_nil]); first | done | rfl | (simp only [List.length_drop, List.length_take]; rfl)) ?_; (with_reducible refine (spec_Good.calls k1 x14_1 _ _ (rd_L5 l0_0 x14_1) false _ ?side1 ?side2 A8.out).mono ?_); (case side1 => repeat (first | exact (Kd.C_below HR129_0.out HB.out) | (with_reducible refine Kd.C_alloc ?_ _) | (with_reducible refine Kd.C_drewN ?_ _) | (with_reducible refine Kd.C_drew ?_))); (case side2 => exact HC129_0.out); rintro e w11 ⟨rfl, hb⟩; refine ⟨_, rfl, ?_⟩; have n0_ := Aside0.mk (blk_below (g := gb128) (o := .cells #[.slice (some ad129) l0_0.length c0_0, .bool a0_1] 30 (0, 0)) (by (with_reducible repeat (first | refine blk_drewN ?_ _ | refine blk_drew ?_ | refine blk_alloc ?_ _)); exact BK128.out) hb); have n1_ := Aside0.mk (below_step (by repeat (first | (with_reducible first | exact HB.out | apply below_alloc | apply pw_below_drewN | apply below_drew1 | refine below_set ?_ GE128.out) | exact HB.out)) hb); clear BK128; clear HB; have BK128 := n0_; have HB := n1_; clear n0_ n1_; (try clear hb); (try clear hb2); (try clear hk); (try clear hi)))
        go_ret
        exact ⟨by first | rfl | (simp [errW_none, errW_some] <;> rfl) | (simp [*, errW_none, errW_some] <;> rfl), by repeat (first | (with_reducible first | exact HB.out | apply below_alloc | apply pw_below_drewN | apply below_drew1 | refine below_set ?_ GE128.out) | exact HB.out)⟩
      ·rw [if_neg c7] at H
       exact absurd H (by simp)
     ·rw [if_neg c6] at H
      exact absurd H (by simp)
    ·rw [if_neg c5] at H
     have c5b0 : decide (x14_1 < (l0_0.length : Int)) = false := decide_eq_false c5
     clear c5
     have HC12 := Aside0.mk H
     clear H
     go_upto_region 9 with (fail)
     go_cut [44] (fun v44 wc => ∃ (kq : Nat) (x44_11 : Bool), v44 = .bool x44_11 ∧ Aside0 (spec_ExprGood.j1 kq x44_11 l0_0 a0_1 = some r) ∧ Aside0 (kq ≤ k1) ∧ Aside0 (wc.heap[gb128]? = some (.cells #[(.slice A0_0 l0_0.length c0_0), .bool a0_1] 30 (0, 0))) ∧ Aside0 (Below w.heap.size w wc))
     case first =>
      have H := HC12.out
      clear HC12
      by_cases c13 : a0_1 = true
      ·subst c13
       have H1 : (spec_ExprGood.j1 k1 false l0_0 true) = some r := by rw [if_pos rfl] at H; exact H
       clear H
       have H := H1
       clear H1
       have H' := Aside0.mk H
       clear H
       have hcz14_0 : wr.cell? ⟨gb128, 0, none⟩ = some (.slice A0_0 l0_0.length c0_0) := (blk_cell BK128.out 0).trans rfl
       have hcz14_1 : wr.cell? ⟨gb128, 1, none⟩ = some (.bool true) := (blk_cell BK128.out 1).trans rfl
       have hfz14_0 := blk_frozen BK128.out 0
       have hfz14_1 := blk_frozen BK128.out 1
       go_wp2
       go_meet
       case rel => exact ⟨_, (false), (by first | rfl | (simp; done) | (simp [*]; done)), H', ⟨by have := HK1.out; first | omega | exact Nat.le_refl _⟩, ⟨by (with_reducible repeat (first | refine blk_drewN ?_ _ | refine blk_drew ?_ | refine blk_alloc ?_ _)); exact BK128.out⟩, ⟨by repeat (first | (with_reducible first | exact HB.out | apply below_alloc | apply pw_below_drewN | apply below_drew1 | refine below_set ?_ GE128.out) | exact HB.out)⟩⟩
      ·replace c13 := Bool.eq_false_iff.mpr c13
       subst c13
       have H1 : (if 0 < (l0_0.length : Int) then (if ((rd_L5 l0_0 0).length : Int) = 1 then (if 0 < ((rd_L5 l0_0 0).length : Int) then (spec_ExprGood.j1 k1 (((rd_T38 (rd_L5 l0_0 0) 0).f0) || (!(((rd_T38 (rd_L5 l0_0 0) 0).f1) == 0) || (!(((rd_T38 (rd_L5 l0_0 0) 0).f2) == 0) || (!(((rd_T38 (rd_L5 l0_0 0) 0).f3) == 1))))) l0_0 false) else (none)) else (spec_ExprGood.j1 k1 true l0_0 false)) else (none)) = some r := by rw [if_neg (show ¬ (false = true) by decide)] at H; exact H
       clear H
       have H := H1
       clear H1
       by_cases c15 : 0 < (l0_0.length : Int)
       ·rw [if_pos c15] at H
        have c15b0 : decide (0 < (l0_0.length : Int)) = true := decide_eq_true c15
        have c15b1 : decide (0 < l0_0.length) = true := decide_eq_true (by omega)
        clear c15
        (first | rw [c15b0] | (simp only [i64_w, i32_w]; rw [c15b0]) | skip)
        by_cases c16 : ((rd_L5 l0_0 0).length : Int) = 1
        ·rw [if_pos c16] at H
         have c16b0 : (((rd_L5 l0_0 0).length : Int) == 1) = true := beq_iff_eq.mpr c16
         have c16b1 : (((rd_L5 l0_0 0).length : Int) != 1) = false := bne_eq_false_iff_eq.mpr c16
         clear c16
         by_cases c17 : 0 < ((rd_L5 l0_0 0).length : Int)
         ·rw [if_pos c17] at H
          have c17b0 : decide (0 < ((rd_L5 l0_0 0).length : Int)) = true := decide_eq_true c17
          have c17b1 : decide (0 < (rd_L5 l0_0 0).length) = true := decide_eq_true (by omega)
          clear c17
          have H' := Aside0.mk H
          clear H
          have hcz18_0 : wr.cell? ⟨gb128, 0, none⟩ = some (.slice A0_0 l0_0.length c0_0) := (blk_cell BK128.out 0).trans rfl
          have hcz18_1 : wr.cell? ⟨gb128, 1, none⟩ = some (.bool false) := (blk_cell BK128.out 1).trans rfl
          have hfz18_0 := blk_frozen BK128.out 0
          have hfz18_1 := blk_frozen BK128.out 1
          have p131 : 0 ≤ (0 : Int) := (by omega)
          have q131 : 0 < (l0_0.length : Int) := of_decide_eq_true (by first | (with_reducible assumption) | assumption)
          obtain ⟨ad131, A131_0, c131_0, e131, hx131_0, hl131_0, hi131_0⟩ := at_L5 HR0_0.out 0 p131 q131
          cases e131
          have qi131 : (0 < l0_0.length) = True := eq_true (by omega)
          (try rw [show ((0 : Int)).toNat = 0 from rfl] at hx131_0)
          (try rw [Addr.add_zero'] at hx131_0)
          replace hx131_0 := (HB.out.cell (World.block_lt_of_cell? w _ hx131_0)).trans hx131_0
          have HR131_0 := Aside0.mk hi131_0
          have HC131_0 := Aside0.mk hl131_0
          clear hi131_0 hl131_0
          replace p131 := eq_true p131
          replace q131 := eq_true q131
          have p132 : 0 ≤ (0 : Int) := (by omega)
          have q132 : 0 < (l0_0.length : Int) := of_decide_eq_true (by first | (with_reducible assumption) | assumption)
          obtain ⟨ad132, A132_0, c132_0, e132, hx132_0, hl132_0, hi132_0⟩ := at_L5 HR0_0.out 0 p132 q132
          obtain rfl : ad131 = ad132 := (by injection e132)
          have qi132 : (0 < l0_0.length) = True := eq_true (by omega)
          (try rw [show ((0 : Int)).toNat = 0 from rfl] at hx132_0)
          (try rw [Addr.add_zero'] at hx132_0)
          replace hx132_0 := (HB.out.cell (World.block_lt_of_cell? w _ hx132_0)).trans hx132_0
          have HR132_0 := Aside0.mk hi132_0
          have HC132_0 := Aside0.mk hl132_0
          clear hi132_0 hl132_0
          replace p132 := eq_true p132
          replace q132 := eq_true q132
          have ea_ := Option.some.inj (hx131_0.symm.trans hx132_0)
          injection ea_ with ea_ en_ ec_
          subst ea_
          subst ec_
          clear en_
          have p133 : 0 ≤ (0 : Int) := (by omega)
          have q133 : 0 < ((rd_L5 l0_0 0).length : Int) := of_decide_eq_true (by first | (with_reducible assumption) | assumption)
          obtain ⟨ad133, e133, hx133_0, hx133_1, hx133_2, hx133_3⟩ := at_T38 HR132_0.out 0 p133 q133
          cases e133
          have qi133 : (0 < (rd_L5 l0_0 0).length) = True := eq_true (by omega)
          (try rw [show ((0 : Int)).toNat = 0 from rfl] at hx133_0)
          (try rw [show 0 * 4 = 0 from rfl] at hx133_0)
          (try rw [Addr.add_zero'] at hx133_0)
          (try rw [show ((0 : Int)).toNat = 0 from rfl] at hx133_1)
          (try rw [show 0 * 4 = 0 from rfl] at hx133_1)
          (try rw [Addr.add_zero'] at hx133_1)
          (try rw [show ((0 : Int)).toNat = 0 from rfl] at hx133_2)
          (try rw [show 0 * 4 = 0 from rfl] at hx133_2)
          (try rw [Addr.add_zero'] at hx133_2)
          (try rw [show ((0 : Int)).toNat = 0 from rfl] at hx133_3)
          (try rw [show 0 * 4 = 0 from rfl] at hx133_3)
          (try rw [Addr.add_zero'] at hx133_3)
          replace hx133_0 := (HB.out.cell (World.block_lt_of_cell? w _ hx133_0)).trans hx133_0
          replace hx133_1 := (HB.out.cell (World.block_lt_of_cell? w _ hx133_1)).trans hx133_1
          replace hx133_2 := (HB.out.cell (World.block_lt_of_cell? w _ hx133_2)).trans hx133_2
          replace hx133_3 := (HB.out.cell (World.block_lt_of_cell? w _ hx133_3)).trans hx133_3
          replace p133 := eq_true p133
          replace q133 := eq_true q133
          go_wp2
          go_meet
          case rel => exact ⟨_, ((((rd_T38 (rd_L5 l0_0 0) 0).f0) || (!(((rd_T38 (rd_L5 l0_0 0) 0).f1) == 0) || (!(((rd_T38 (rd_L5 l0_0 0) 0).f2) == 0) || (!(((rd_T38 (rd_L5 l0_0 0) 0).f3) == 1)))))), (by first | rfl | (simp; done) | (simp [*]; done)), H', ⟨by have := HK1.out; first | omega | exact Nat.le_refl _⟩, ⟨by (with_reducible repeat (first | refine blk_drewN ?_ _ | refine blk_drew ?_ | refine blk_alloc ?_ _)); exact BK128.out⟩, ⟨by repeat (first | (with_reducible first | exact HB.out | apply below_alloc | apply pw_below_drewN | apply below_drew1 | refine below_set ?_ GE128.out) | exact HB.out)⟩⟩
         ·rw [if_neg c17] at H
          exact absurd H (by simp)
        ·rw [if_neg c16] at H
         have c16b0 : (((rd_L5 l0_0 0).length : Int) == 1) = false := beq_eq_false_iff_ne.mpr c16
         have c16b1 : (((rd_L5 l0_0 0).length : Int) != 1) = true := bne_iff_ne.mpr c16
         have H' := Aside0.mk H
         clear H
         have hcz19_0 : wr.cell? ⟨gb128, 0, none⟩ = some (.slice A0_0 l0_0.length c0_0) := (blk_cell BK128.out 0).trans rfl
         have hcz19_1 : wr.cell? ⟨gb128, 1, none⟩ = some (.bool false) := (blk_cell BK128.out 1).trans rfl
         have hfz19_0 := blk_frozen BK128.out 0
         have hfz19_1 := blk_frozen BK128.out 1
         have p131 : 0 ≤ (0 : Int) := (by omega)
         have q131 : 0 < (l0_0.length : Int) := of_decide_eq_true (by first | (with_reducible assumption) | assumption)
         obtain ⟨ad131, A131_0, c131_0, e131, hx131_0, hl131_0, hi131_0⟩ := at_L5 HR0_0.out 0 p131 q131
         cases e131
         have qi131 : (0 < l0_0.length) = True := eq_true (by omega)
         (try rw [show ((0 : Int)).toNat = 0 from rfl] at hx131_0)
         (try rw [Addr.add_zero'] at hx131_0)
         replace hx131_0 := (HB.out.cell (World.block_lt_of_cell? w _ hx131_0)).trans hx131_0
         have HR131_0 := Aside0.mk hi131_0
         have HC131_0 := Aside0.mk hl131_0
         clear hi131_0 hl131_0
         replace p131 := eq_true p131
         replace q131 := eq_true q131
         go_wp2
         go_meet
         case rel => exact ⟨_, (true), (by first | rfl | (simp; done) | (simp [*]; done)), H', ⟨by have := HK1.out; first | omega | exact Nat.le_refl _⟩, ⟨by (with_reducible repeat (first | refine blk_drewN ?_ _ | refine blk_drew ?_ | refine blk_alloc ?_ _)); exact BK128.out⟩, ⟨by repeat (first | (with_reducible first | exact HB.out | apply below_alloc | apply pw_below_drewN | apply below_drew1 | refine below_set ?_ GE128.out) | exact HB.out)⟩⟩
       ·rw [if_neg c15] at H
        exact absurd H (by simp)
     case rest =>
      clear HC12
      try clear c1
      try clear p1
      try clear q1
      try clear hx1
      try clear qi1
      try clear c2
      try clear c2b0
      try clear c2b1
      try clear p2
      try clear c4
      try clear c5
      try clear c5b0
      try clear c6
      try clear c6b0
      try clear p6
      try clear c7
      try clear c7b0
      try clear c9
      try clear c12
      try clear p12
      try clear q12
      try clear hx12
      try clear c13
      try clear p13
      try clear q13
      try clear hx13
      try clear qi13
      try clear c15
      try clear c15b0
      try clear c15b1
      try clear c16
      try clear c16b0
      try clear c16b1
      try clear c17
      try clear c17b0
      try clear c17b1
      try clear hcz14_0
      try clear hcz14_1
      try clear hcz18_0
      try clear hcz18_1
      try clear hcz19_0
      try clear hcz19_1
      try clear hcz4_0
      try clear hcz4_1
      try clear hfz14_0
      try clear hfz14_1
      try clear hfz18_0
      try clear hfz18_1
      try clear hfz19_0
      try clear hfz19_1
      try clear hfz4_0
      try clear hfz4_1
      try clear hx129_0
      try clear hx131_0
      try clear hx132_0
      try clear hx133_0
      try clear hx133_1
      try clear hx133_2
      try clear hx133_3
      try clear p129
      try clear p131
      try clear p132
      try clear p133
      try clear p2
      try clear q129
      try clear q131
      try clear q132
      try clear q133
      obtain ⟨kq, x44_11, rfl, HA, HJ11, BK128, HB⟩ := hcut
      cases kq with
      | zero => exact absurd HA.out (by simp [spec_ExprGood.j1])
      | succ kj11 =>
       have H := HA.out
       clear HA
       simp only [spec_ExprGood.j1] at H
       by_cases c20 : x44_11 = true
       ·subst c20
        have H1 : (some false) = some r := by rw [if_pos rfl] at H; exact H
        clear H
        have H := H1
        clear H1
        obtain rfl := Option.some.inj H
        go_wp2
        go_ret
        exact ⟨by first | rfl | (simp [errW_none, errW_some] <;> rfl) | (simp [*, errW_none, errW_some] <;> rfl), by repeat (first | (with_reducible first | exact HB.out | apply below_alloc | apply pw_below_drewN | apply below_drew1 | refine below_set ?_ GE128.out) | exact HB.out)⟩
       ·replace c20 := Bool.eq_false_iff.mpr c20
        subst c20
        have H1 : (if 3 < (l0_0.length : Int) then ((spec_Star.f (rd_L5 l0_0 3)).bind fun t135 => (if t135 = true then (spec_ExprGood.j2 kj11 false l0_0 a0_1) else (if 5 < (l0_0.length : Int) then ((spec_Star.f (rd_L5 l0_0 5)).bind fun t137 => (spec_ExprGood.j2 kj11 (!t137) l0_0 a0_1)) else (none)))) else (none)) = some r := by rw [if_neg (show ¬ (false = true) by decide)] at H; exact H
        clear H
        have H := H1
        clear H1
        have HC21 := Aside0.mk H
        clear H
        go_upto_region 11 with (fail)
        go_cut [58] (fun v58 wc => ∃ (kq : Nat) (x58_20 : Bool), v58 = .bool x58_20 ∧ Aside0 (spec_ExprGood.j2 kq x58_20 l0_0 a0_1 = some r) ∧ Aside0 (kq ≤ kj11) ∧ Aside0 (wc.heap[gb128]? = some (.cells #[(.slice A0_0 l0_0.length c0_0), .bool a0_1] 30 (0, 0))) ∧ Aside0 (Below w.heap.size w wc))
        case first =>
         have H := HC21.out
         clear HC21
         by_cases c22 : 3 < (l0_0.length : Int)
         ·rw [if_pos c22] at H
          have c22b0 : decide (3 < (l0_0.length : Int)) = true := decide_eq_true c22
          have c22b1 : decide (3 < l0_0.length) = true := decide_eq_true (by omega)
          clear c22
          (first | rw [c22b0] | (simp only [i64_w, i32_w]; rw [c22b0]) | skip)
          replace H := Option.bind_eq_some_iff.mp H
          obtain ⟨t135, A230, H⟩ := H
          replace H : (if t135 = true then (spec_ExprGood.j2 kj11 false l0_0 a0_1) else (if 5 < (l0_0.length : Int) then ((spec_Star.f (rd_L5 l0_0 5)).bind fun t137 => (spec_ExprGood.j2 kj11 (!t137) l0_0 a0_1)) else (none))) = some r := H
          have A23 := Aside0.mk A230
          clear A230
          by_cases c24 : t135 = true
          ·subst c24
           have H1 : (spec_ExprGood.j2 kj11 false l0_0 a0_1) = some r := by rw [if_pos rfl] at H; exact H
           clear H
           have H := H1
           clear H1
           have H' := Aside0.mk H
           clear H
           have hcz25_0 : wc.cell? ⟨gb128, 0, none⟩ = some (.slice A0_0 l0_0.length c0_0) := (blk_cell BK128.out 0).trans rfl
           have hcz25_1 : wc.cell? ⟨gb128, 1, none⟩ = some (.bool a0_1) := (blk_cell BK128.out 1).trans rfl
           have hfz25_0 := blk_frozen BK128.out 0
           have hfz25_1 := blk_frozen BK128.out 1
           have p134 : 0 ≤ (3 : Int) := (by omega)
           have q134 : 3 < (l0_0.length : Int) := of_decide_eq_true (by first | (with_reducible assumption) | assumption)
           obtain ⟨ad134, A134_0, c134_0, e134, hx134_0, hl134_0, hi134_0⟩ := at_L5 HR0_0.out 3 p134 q134
           cases e134
           (try simp only [show (3 : Int).toNat = 3 from rfl, Nat.reduceMul, Nat.reduceEqDiff, Go.Addr.add, ↓reduceIte] at hx134_0)
           have qi134 : (3 < l0_0.length) = True := eq_true (by omega)
           (try rw [show ((3 : Int)).toNat = 3 from rfl] at hx134_0)
           replace hx134_0 := (HB.out.cell (World.block_lt_of_cell? w _ hx134_0)).trans hx134_0
           have HR134_0 := Aside0.mk hi134_0
           have HC134_0 := Aside0.mk hl134_0
           clear hi134_0 hl134_0
           replace p134 := eq_true p134
           replace q134 := eq_true q134
           go_wp2_with (first | ((with_reducible refine gate_callee (f := 17) rfl ?_); refine goesL_ (some 49) rfl rfl Tryz.func17 (by kernel_rfl) rfl #[.slice A134_0 (rd_L5 l0_0 3).length c134_0] rfl (by (try simp only [List.map_toArray, List.map_cons, List.map_nil]); first | done | rfl | (simp only [List.length_drop, List.length_take]; rfl)) ?_; (with_reducible refine (spec_Star.calls _ _ (rd_L5 l0_0 3) true _ ?side1 ?side2 A23.out).mono ?_); (case side1 => repeat (first | exact (Kd.C_below HR134_0.out HB.out) | (with_reducible refine Kd.C_alloc ?_ _) | (with_reducible refine Kd.C_drewN ?_ _) | (with_reducible refine Kd.C_drew ?_))); (case side2 => exact HC134_0.out); rintro e w' ⟨rfl, ⟨nd, rfl⟩⟩; refine ⟨_, rfl, ?_⟩))
           go_meet
           case rel => exact ⟨_, (false), (by first | rfl | (simp; done) | (simp [*]; done)), H', ⟨by have := HK1.out; have := HJ11.out; first | omega | exact Nat.le_refl _⟩, ⟨by (with_reducible repeat (first | refine blk_drewN ?_ _ | refine blk_drew ?_ | refine blk_alloc ?_ _)); exact BK128.out⟩, ⟨by repeat (first | (with_reducible first | exact HB.out | apply below_alloc | apply pw_below_drewN | apply below_drew1 | refine below_set ?_ GE128.out) | exact HB.out)⟩⟩
          ·replace c24 := Bool.eq_false_iff.mpr c24
           subst c24
           have H1 : (if 5 < (l0_0.length : Int) then ((spec_Star.f (rd_L5 l0_0 5)).bind fun t137 => (spec_ExprGood.j2 kj11 (!t137) l0_0 a0_1)) else (none)) = some r := by rw [if_neg (show ¬ (false = true) by decide)] at H; exact H
           clear H
           have H := H1
           clear H1
           by_cases c26 : 5 < (l0_0.length : Int)
           ·rw [if_pos c26] at H
            have c26b0 : decide (5 < (l0_0.length : Int)) = true := decide_eq_true c26
            have c26b1 : decide (5 < l0_0.length) = true := decide_eq_true (by omega)
            clear c26
            replace H := Option.bind_eq_some_iff.mp H
            obtain ⟨t137, A270, H⟩ := H
            replace H : (spec_ExprGood.j2 kj11 (!t137) l0_0 a0_1) = some r := H
            have A27 := Aside0.mk A270
            clear A270
            have H' := Aside0.mk H
            clear H
            have hcz28_0 : wc.cell? ⟨gb128, 0, none⟩ = some (.slice A0_0 l0_0.length c0_0) := (blk_cell BK128.out 0).trans rfl
            have hcz28_1 : wc.cell? ⟨gb128, 1, none⟩ = some (.bool a0_1) := (blk_cell BK128.out 1).trans rfl
            have hfz28_0 := blk_frozen BK128.out 0
            have hfz28_1 := blk_frozen BK128.out 1
            have p134 : 0 ≤ (3 : Int) := (by omega)
            have q134 : 3 < (l0_0.length : Int) := of_decide_eq_true (by first | (with_reducible assumption) | assumption)
            obtain ⟨ad134, A134_0, c134_0, e134, hx134_0, hl134_0, hi134_0⟩ := at_L5 HR0_0.out 3 p134 q134
            cases e134
            (try simp only [show (3 : Int).toNat = 3 from rfl, Nat.reduceMul, Nat.reduceEqDiff, Go.Addr.add, ↓reduceIte] at hx134_0)
            have qi134 : (3 < l0_0.length) = True := eq_true (by omega)
            (try rw [show ((3 : Int)).toNat = 3 from rfl] at hx134_0)
            replace hx134_0 := (HB.out.cell (World.block_lt_of_cell? w _ hx134_0)).trans hx134_0
            have HR134_0 := Aside0.mk hi134_0
            have HC134_0 := Aside0.mk hl134_0
            clear hi134_0 hl134_0
            replace p134 := eq_true p134
            replace q134 := eq_true q134
            go_wp2_with (first | ((with_reducible refine gate_callee (f := 17) rfl ?_); refine goesL_ (some 49) rfl rfl Tryz.func17 (by kernel_rfl) rfl #[.slice A134_0 (rd_L5 l0_0 3).length c134_0] rfl (by (try simp only [List.map_toArray, List.map_cons, List.map_nil]); first | done | rfl | (simp only [List.length_drop, List.length_take]; rfl)) ?_; (with_reducible refine (spec_Star.calls _ _ (rd_L5 l0_0 3) false _ ?side1 ?side2 A23.out).mono ?_); (case side1 => repeat (first | exact (Kd.C_below HR134_0.out HB.out) | (with_reducible refine Kd.C_alloc ?_ _) | (with_reducible refine Kd.C_drewN ?_ _) | (with_reducible refine Kd.C_drew ?_))); (case side2 => exact HC134_0.out); rintro e w' ⟨rfl, ⟨nd, rfl⟩⟩; refine ⟨_, rfl, ?_⟩; have p136 : 0 ≤ (5 : Int) := (by omega); have q136 : 5 < (l0_0.length : Int) := of_decide_eq_true (by first | (with_reducible assumption) | assumption); obtain ⟨ad136, A136_0, c136_0, e136, hx136_0, hl136_0, hi136_0⟩ := at_L5 HR0_0.out 5 p136 q136; obtain rfl : ad134 = ad136 := (by injection e136); (try simp only [show (5 : Int).toNat = 5 from rfl, Nat.reduceMul, Nat.reduceEqDiff, Go.Addr.add, ↓reduceIte] at hx136_0); have qi136 : (5 < l0_0.length) = True := eq_true (by omega); (try rw [show ((5 : Int)).toNat = 5 from rfl] at hx136_0); replace hx136_0 := (HB.out.cell (World.block_lt_of_cell? w _ hx136_0)).trans hx136_0; have HR136_0 := Aside0.mk hi136_0; have HC136_0 := Aside0.mk hl136_0; clear hi136_0 hl136_0; replace p136 := eq_true p136; replace q136 := eq_true q136) | (go_at_call 17; (with_reducible refine (spec_Star.calls _ _ (rd_L5 l0_0 5) t137 _ ?side1 ?side2 A27.out).mono ?_); (case side1 => repeat (first | exact (Kd.C_below HR136_0.out (by repeat (first | (with_reducible first | exact HB.out | apply below_alloc | apply pw_below_drewN | apply below_drew1 | refine below_set ?_ GE128.out) | exact HB.out))) | (with_reducible refine Kd.C_alloc ?_ _) | (with_reducible refine Kd.C_drewN ?_ _) | (with_reducible refine Kd.C_drew ?_))); (case side2 => exact HC136_0.out); rintro e w' ⟨rfl, ⟨nd, rfl⟩⟩))
            go_meet
            case rel => exact ⟨_, (!t137), (by first | rfl | (simp; done) | (simp [*]; done)), H', ⟨by have := HK1.out; have := HJ11.out; first | omega | exact Nat.le_refl _⟩, ⟨by (with_reducible repeat (first | refine blk_drewN ?_ _ | refine blk_drew ?_ | refine blk_alloc ?_ _)); exact BK128.out⟩, ⟨by repeat (first | (with_reducible first | exact HB.out | apply below_alloc | apply pw_below_drewN | apply below_drew1 | refine below_set ?_ GE128.out) | exact HB.out)⟩⟩
           ·rw [if_neg c26] at H
            exact absurd H (by simp)
         ·rw [if_neg c22] at H
          exact absurd H (by simp)
        case rest =>
         clear HC21
         try clear c1
         try clear p1
         try clear q1
         try clear hx1
         try clear qi1
         try clear c2
         try clear c2b0
         try clear c2b1
         try clear p2
         try clear c4
         try clear c5
         try clear c5b0
         try clear c6
         try clear c6b0
         try clear p6
         try clear c7
         try clear c7b0
         try clear c9
         try clear c12
         try clear p12
         try clear q12
         try clear hx12
         try clear c13
         try clear p13
         try clear q13
         try clear hx13
         try clear qi13
         try clear c15
         try clear c15b0
         try clear c15b1
         try clear c16
         try clear c16b0
         try clear c16b1
         try clear c17
         try clear c17b0
         try clear c17b1
         try clear c20
         try clear c22
         try clear c22b0
         try clear c22b1
         try clear c24
         try clear c26
         try clear c26b0
         try clear c26b1
         try clear c28
         try clear hcz14_0
         try clear hcz14_1
         try clear hcz18_0
         try clear hcz18_1
         try clear hcz19_0
         try clear hcz19_1
         try clear hcz25_0
         try clear hcz25_1
         try clear hcz28_0
         try clear hcz28_1
         try clear hcz4_0
         try clear hcz4_1
         try clear hfz14_0
         try clear hfz14_1
         try clear hfz18_0
         try clear hfz18_1
         try clear hfz19_0
         try clear hfz19_1
         try clear hfz25_0
         try clear hfz25_1
         try clear hfz28_0
         try clear hfz28_1
         try clear hfz4_0
         try clear hfz4_1
         try clear hx129_0
         try clear hx131_0
         try clear hx132_0
         try clear hx133_0
         try clear hx133_1
         try clear hx133_2
         try clear hx133_3
         try clear hx134_0
         try clear hx136_0
         try clear p1
         try clear p12
         try clear p129
         try clear p13
         try clear p131
         try clear p132
         try clear p133
         try clear p134
         try clear p136
         try clear p2
         try clear p6
         try clear q1
         try clear q12
         try clear q129
         try clear q13
         try clear q131
         try clear q132
         try clear q133
         try clear q134
         try clear q136
         obtain ⟨kq, x58_20, rfl, HA, HJ20, BK128, HB⟩ := hcut
         cases kq with
         | zero => exact absurd HA.out (by simp [spec_ExprGood.j2])
         | succ kj20 =>
          have H := HA.out
          clear HA
          simp only [spec_ExprGood.j2] at H
          by_cases c29 : x58_20 = true
          ·subst c29
           have H1 : (some false) = some r := by rw [if_pos rfl] at H; exact H
           clear H
           have H := H1
           clear H1
           obtain rfl := Option.some.inj H
           go_wp2
           go_ret
           exact ⟨by first | rfl | (simp [errW_none, errW_some] <;> rfl) | (simp [*, errW_none, errW_some] <;> rfl), by repeat (first | (with_reducible first | exact HB.out | apply below_alloc | apply pw_below_drewN | apply below_drew1 | refine below_set ?_ GE128.out) | exact HB.out)⟩
          ·replace c29 := Bool.eq_false_iff.mpr c29
           subst c29
           have H1 : (if 4 < (l0_0.length : Int) then ((spec_Star.f (rd_L5 l0_0 4)).bind fun t139 => (if t139 = true then (some true) else (if 3 < (l0_0.length : Int) then (spec_ExprGood.l1 kj20 (rd_L5 l0_0 3) ((rd_L5 l0_0 3).length : Int) 0) else (none)))) else (none)) = some r := by rw [if_neg (show ¬ (false = true) by decide)] at H; exact H
           clear H
           have H := H1
           clear H1
           by_cases c30 : 4 < (l0_0.length : Int)
           ·rw [if_pos c30] at H
            have c30b0 : decide (4 < (l0_0.length : Int)) = true := decide_eq_true c30
            have c30b1 : decide (4 < l0_0.length) = true := decide_eq_true (by omega)
            clear c30
            replace H := Option.bind_eq_some_iff.mp H
            obtain ⟨t139, A310, H⟩ := H
            replace H : (if t139 = true then (some true) else (if 3 < (l0_0.length : Int) then (spec_ExprGood.l1 kj20 (rd_L5 l0_0 3) ((rd_L5 l0_0 3).length : Int) 0) else (none))) = some r := H
            have A31 := Aside0.mk A310
            clear A310
            by_cases c32 : t139 = true
            ·subst c32
             have H1 : (some true) = some r := by rw [if_pos rfl] at H; exact H
             clear H
             have H := H1
             clear H1
             obtain rfl := Option.some.inj H
             have hcz33_0 : wc.cell? ⟨gb128, 0, none⟩ = some (.slice A0_0 l0_0.length c0_0) := (blk_cell BK128.out 0).trans rfl
             have hcz33_1 : wc.cell? ⟨gb128, 1, none⟩ = some (.bool a0_1) := (blk_cell BK128.out 1).trans rfl
             have hfz33_0 := blk_frozen BK128.out 0
             have hfz33_1 := blk_frozen BK128.out 1
             have p138 : 0 ≤ (4 : Int) := (by omega)
             have q138 : 4 < (l0_0.length : Int) := of_decide_eq_true (by first | (with_reducible assumption) | assumption)
             obtain ⟨ad138, A138_0, c138_0, e138, hx138_0, hl138_0, hi138_0⟩ := at_L5 HR0_0.out 4 p138 q138
             cases e138
             (try simp only [show (4 : Int).toNat = 4 from rfl, Nat.reduceMul, Nat.reduceEqDiff, Go.Addr.add, ↓reduceIte] at hx138_0)
             have qi138 : (4 < l0_0.length) = True := eq_true (by omega)
             (try rw [show ((4 : Int)).toNat = 4 from rfl] at hx138_0)
             replace hx138_0 := (HB.out.cell (World.block_lt_of_cell? w _ hx138_0)).trans hx138_0
             have HR138_0 := Aside0.mk hi138_0
             have HC138_0 := Aside0.mk hl138_0
             clear hi138_0 hl138_0
             replace p138 := eq_true p138
             replace q138 := eq_true q138
             go_wp2_with (first | ((with_reducible refine gate_callee (f := 17) rfl ?_); refine goesL_ (some 63) rfl rfl Tryz.func17 (by kernel_rfl) rfl #[.slice A138_0 (rd_L5 l0_0 4).length c138_0] rfl (by (try simp only [List.map_toArray, List.map_cons, List.map_nil]); first | done | rfl | (simp only [List.length_drop, List.length_take]; rfl)) ?_; (with_reducible refine (spec_Star.calls _ _ (rd_L5 l0_0 4) true _ ?side1 ?side2 A31.out).mono ?_); (case side1 => repeat (first | exact (Kd.C_below HR138_0.out HB.out) | (with_reducible refine Kd.C_alloc ?_ _) | (with_reducible refine Kd.C_drewN ?_ _) | (with_reducible refine Kd.C_drew ?_))); (case side2 => exact HC138_0.out); rintro e w' ⟨rfl, ⟨nd, rfl⟩⟩; refine ⟨_, rfl, ?_⟩))
             go_ret
             exact ⟨by first | rfl | (simp [errW_none, errW_some] <;> rfl) | (simp [*, errW_none, errW_some] <;> rfl), by repeat (first | (with_reducible first | exact HB.out | apply below_alloc | apply pw_below_drewN | apply below_drew1 | refine below_set ?_ GE128.out) | exact HB.out)⟩
            ·replace c32 := Bool.eq_false_iff.mpr c32
             subst c32
             have H1 : (if 3 < (l0_0.length : Int) then (spec_ExprGood.l1 kj20 (rd_L5 l0_0 3) ((rd_L5 l0_0 3).length : Int) 0) else (none)) = some r := by rw [if_neg (show ¬ (false = true) by decide)] at H; exact H
             clear H
             have H := H1
             clear H1
             by_cases c34 : 3 < (l0_0.length : Int)
             ·rw [if_pos c34] at H
              have c34b0 : decide (3 < (l0_0.length : Int)) = true := decide_eq_true c34
              have c34b1 : decide (3 < l0_0.length) = true := decide_eq_true (by omega)
              clear c34
              have H' := Aside0.mk H
              clear H
              have hcz35_0 : wc.cell? ⟨gb128, 0, none⟩ = some (.slice A0_0 l0_0.length c0_0) := (blk_cell BK128.out 0).trans rfl
              have hcz35_1 : wc.cell? ⟨gb128, 1, none⟩ = some (.bool a0_1) := (blk_cell BK128.out 1).trans rfl
              have hfz35_0 := blk_frozen BK128.out 0
              have hfz35_1 := blk_frozen BK128.out 1
              have p138 : 0 ≤ (4 : Int) := (by omega)
              have q138 : 4 < (l0_0.length : Int) := of_decide_eq_true (by first | (with_reducible assumption) | assumption)
              obtain ⟨ad138, A138_0, c138_0, e138, hx138_0, hl138_0, hi138_0⟩ := at_L5 HR0_0.out 4 p138 q138
              cases e138
              (try simp only [show (4 : Int).toNat = 4 from rfl, Nat.reduceMul, Nat.reduceEqDiff, Go.Addr.add, ↓reduceIte] at hx138_0)
              have qi138 : (4 < l0_0.length) = True := eq_true (by omega)
              (try rw [show ((4 : Int)).toNat = 4 from rfl] at hx138_0)
              replace hx138_0 := (HB.out.cell (World.block_lt_of_cell? w _ hx138_0)).trans hx138_0
              have HR138_0 := Aside0.mk hi138_0
              have HC138_0 := Aside0.mk hl138_0
              clear hi138_0 hl138_0
              replace p138 := eq_true p138
              replace q138 := eq_true q138
              go_wp2_with (first | ((with_reducible refine gate_callee (f := 17) rfl ?_); refine goesL_ (some 63) rfl rfl Tryz.func17 (by kernel_rfl) rfl #[.slice A138_0 (rd_L5 l0_0 4).length c138_0] rfl (by (try simp only [List.map_toArray, List.map_cons, List.map_nil]); first | done | rfl | (simp only [List.length_drop, List.length_take]; rfl)) ?_; (with_reducible refine (spec_Star.calls _ _ (rd_L5 l0_0 4) false _ ?side1 ?side2 A31.out).mono ?_); (case side1 => repeat (first | exact (Kd.C_below HR138_0.out HB.out) | (with_reducible refine Kd.C_alloc ?_ _) | (with_reducible refine Kd.C_drewN ?_ _) | (with_reducible refine Kd.C_drew ?_))); (case side2 => exact HC138_0.out); rintro e w' ⟨rfl, ⟨nd, rfl⟩⟩; refine ⟨_, rfl, ?_⟩; have p140 : 0 ≤ (3 : Int) := (by omega); have q140 : 3 < (l0_0.length : Int) := of_decide_eq_true (by first | (with_reducible assumption) | assumption); obtain ⟨ad140, A140_0, c140_0, e140, hx140_0, hl140_0, hi140_0⟩ := at_L5 HR0_0.out 3 p140 q140; obtain rfl : ad138 = ad140 := (by injection e140); (try simp only [show (3 : Int).toNat = 3 from rfl, Nat.reduceMul, Nat.reduceEqDiff, Go.Addr.add, ↓reduceIte] at hx140_0); have qi140 : (3 < l0_0.length) = True := eq_true (by omega); (try rw [show ((3 : Int)).toNat = 3 from rfl] at hx140_0); replace hx140_0 := (HB.out.cell (World.block_lt_of_cell? w _ hx140_0)).trans hx140_0; have HR140_0 := Aside0.mk hi140_0; have HC140_0 := Aside0.mk hl140_0; clear hi140_0 hl140_0; replace p140 := eq_true p140; replace q140 := eq_true q140))
              go_loopg [70] kj20 (fun kq v70 w' => ∃ (x70_4 : Int), v70 = .int .i64 x70_4 ∧ Aside0 (spec_ExprGood.l1 kq (rd_L5 l0_0 3) ((rd_L5 l0_0 3).length : Int) x70_4 = some r) ∧ Aside0 (kq ≤ kj20) ∧ Aside0 (w'.heap[gb128]? = some (.cells #[(.slice (some ad138) l0_0.length c0_0), .bool a0_1] 30 (0, 0))) ∧ Aside0 (Below w.heap.size w w'))
              case atStart => exact ⟨(0), (by first | rfl | (simp; done) | (simp [*]; done)), H', ⟨Nat.le_refl _⟩, ⟨by (with_reducible repeat (first | refine blk_drewN ?_ _ | refine blk_drew ?_ | refine blk_alloc ?_ _)); exact BK128.out⟩, ⟨by repeat (first | (with_reducible first | exact HB.out | apply below_alloc | apply pw_below_drewN | apply below_drew1 | refine below_set ?_ GE128.out) | exact HB.out)⟩⟩
              case round =>
               clear H'
               try clear c1
               try clear p1
               try clear q1
               try clear hx1
               try clear qi1
               try clear c2
               try clear c2b0
               try clear c2b1
               try clear p2
               try clear c3
               try clear c4
               try clear c5
               try clear c5b0
               try clear c6
               try clear c6b0
               try clear p6
               try clear c7
               try clear c7b0
               try clear c9
               try clear c12
               try clear p12
               try clear q12
               try clear hx12
               try clear c13
               try clear p13
               try clear q13
               try clear hx13
               try clear qi13
               try clear c14
               try clear p14
               try clear q14
               try clear hx14
               try clear qi14
               try clear c15
               try clear c15b0
               try clear c15b1
               try clear c16
               try clear c16b0
               try clear c16b1
               try clear c17
               try clear c17b0
               try clear c17b1
               try clear c20
               try clear c22
               try clear c22b0
               try clear c22b1
               try clear c24
               try clear c26
               try clear c26b0
               try clear c26b1
               try clear c28
               try clear c29
               try clear c30
               try clear c30b0
               try clear c30b1
               try clear c32
               try clear c34
               try clear c34b0
               try clear c34b1
               try clear hcz14_0
               try clear hcz14_1
               try clear hcz18_0
               try clear hcz18_1
               try clear hcz19_0
               try clear hcz19_1
               try clear hcz25_0
               try clear hcz25_1
               try clear hcz28_0
               try clear hcz28_1
               try clear hcz33_0
               try clear hcz33_1
               try clear hcz35_0
               try clear hcz35_1
               try clear hcz4_0
               try clear hcz4_1
               try clear hfz14_0
               try clear hfz14_1
               try clear hfz18_0
               try clear hfz18_1
               try clear hfz19_0
               try clear hfz19_1
               try clear hfz25_0
               try clear hfz25_1
               try clear hfz28_0
               try clear hfz28_1
               try clear hfz33_0
               try clear hfz33_1
               try clear hfz35_0
               try clear hfz35_1
               try clear hfz4_0
               try clear hfz4_1
               try clear hx129_0
               try clear hx131_0
               try clear hx132_0
               try clear hx133_0
               try clear hx133_1
               try clear hx133_2
               try clear hx133_3
               try clear hx134_0
               try clear hx136_0
               try clear hx138_0
               try clear hx140_0
               try clear p1
               try clear p12
               try clear p129
               try clear p13
               try clear p131
               try clear p132
               try clear p133
               try clear p134
               try clear p136
               try clear p138
               try clear p140
               try clear p2
               try clear p6
               try clear q1
               try clear q12
               try clear q129
               try clear q13
               try clear q131
               try clear q132
               try clear q133
               try clear q134
               try clear q136
               try clear q138
               try clear q140
               obtain ⟨x70_4, rfl, HA, HK4, BK128, HB⟩ := hrel
               cases gk with
               | zero => exact absurd HA.out (by simp [spec_ExprGood.l1])
               | succ k4 =>
                have H := HA.out
                clear HA
                simp only [spec_ExprGood.l1] at H
                by_cases c36 : x70_4 < ((rd_L5 l0_0 3).length : Int)
                ·rw [if_pos c36] at H
                 have c36b0 : decide (x70_4 < ((rd_L5 l0_0 3).length : Int)) = true := decide_eq_true c36
                 clear c36
                 by_cases c37 : 0 ≤ x70_4
                 ·rw [if_pos c37] at H
                  have c37b0 : decide (0 ≤ x70_4) = true := decide_eq_true c37
                  clear c37
                  by_cases c38 : x70_4 < ((rd_L5 l0_0 3).length : Int)
                  ·rw [if_pos c38] at H
                   have c38b0 : decide (x70_4 < ((rd_L5 l0_0 3).length : Int)) = true := decide_eq_true c38
                   clear c38
                   obtain ⟨bq39, hbq39⟩ : ∃ b_ : Bool, b_ = ((rd_T38 (rd_L5 l0_0 3) x70_4).f0) := ⟨_, rfl⟩
                   replace H : (if (bq39 = true) then (spec_ExprGood.l1 k4 (rd_L5 l0_0 3) ((rd_L5 l0_0 3).length : Int) (wrap64 (x70_4 + 1))) else (if ((rd_T38 (rd_L5 l0_0 3) x70_4).f1) > 28 then (some false) else (spec_ExprGood.l1 k4 (rd_L5 l0_0 3) ((rd_L5 l0_0 3).length : Int) (wrap64 (x70_4 + 1))))) = some r := by rw [← hbq39] at H; exact H
                   have Nbq39 := Aside0.mk hbq39
                   clear hbq39
                   by_cases c40 : (bq39 = true)
                   ·subst c40
                    have H1 : (spec_ExprGood.l1 k4 (rd_L5 l0_0 3) ((rd_L5 l0_0 3).length : Int) (wrap64 (x70_4 + 1))) = some r := by rw [if_pos rfl] at H; exact H
                    clear H
                    have H := H1
                    clear H1
                    have H' := Aside0.mk H
                    clear H
                    have p141 : 0 ≤ (x70_4 : Int) := of_decide_eq_true (by first | (with_reducible assumption) | assumption)
                    have q141 : x70_4 < ((rd_L5 l0_0 3).length : Int) := of_decide_eq_true (by first | (with_reducible assumption) | assumption)
                    obtain ⟨ad141, e141, hx141_0, hx141_1, hx141_2, hx141_3⟩ := at_T38 HR140_0.out x70_4 p141 q141
                    (try rw [← Nbq39.out] at hx141_0)
                    cases e141
                    replace hx141_0 := (HB.out.cell (World.block_lt_of_cell? w _ hx141_0)).trans hx141_0
                    replace hx141_1 := (HB.out.cell (World.block_lt_of_cell? w _ hx141_1)).trans hx141_1
                    replace hx141_2 := (HB.out.cell (World.block_lt_of_cell? w _ hx141_2)).trans hx141_2
                    replace hx141_3 := (HB.out.cell (World.block_lt_of_cell? w _ hx141_3)).trans hx141_3
                    replace p141 := eq_true p141
                    replace q141 := eq_true q141
                    go_wp2_with (first | ((with_reducible refine gate_dst (N := 6) rfl ?_); (try (refine gate_guard (by rfl) ?_; dsimp only)); refine box_event ?hg (N := 6) ?hd (cs := #[.bool false, .int .i64 0, .int .i64 0, .int .i64 0]) (t := 38) ?hr ?_; (case hd => rfl); (case hg => rfl); (case hr => first | (go_simp; done) | (go_simp; rfl)); intro gb142 hg w41 hbox hb; have n0_ := Aside0.mk (blk_below (g := gb128) (o := .cells #[.slice (some ad138) l0_0.length c0_0, .bool a0_1] 30 (0, 0)) (by (with_reducible repeat (first | refine blk_drewN ?_ _ | refine blk_drew ?_ | refine blk_alloc ?_ _)); exact BK128.out) hb); have n1_ := Aside0.mk (below_step (by repeat (first | (with_reducible first | exact HB.out | apply below_alloc | apply pw_below_drewN | apply below_drew1 | refine below_set ?_ GE128.out) | exact HB.out)) hb); have n2_ := Aside0.mk (hbox); have n3_ := Aside0.mk ((by rw [hg]; exact (below_size (by repeat (first | (with_reducible first | exact HB.out | apply below_alloc | apply pw_below_drewN | apply below_drew1 | refine below_set ?_ GE128.out) | exact HB.out))) : w.heap.size ≤ gb142)); have n4_ := Aside0.mk ((by rw [hg]; exact (below_size (by repeat (first | (with_reducible first | exact HB.out | apply below_alloc | apply pw_below_drewN | apply below_drew1 | refine below_set ?_ GE128.out) | exact HB.out))) : w.heap.size ≤ gb142)); have n5_ := Aside0.mk ((by rw [hg]; exact Nat.ne_of_lt (blk_lt (g := gb128) (o := .cells #[.slice (some ad138) l0_0.length c0_0, .bool a0_1] 30 (0, 0)) (by (with_reducible repeat (first | refine blk_drewN ?_ _ | refine blk_drew ?_ | refine blk_alloc ?_ _)); exact BK128.out)) : gb128 ≠ gb142)); have n6_ := Aside0.mk ((by rw [hg]; exact Nat.ne_of_gt (blk_lt (g := gb128) (o := .cells #[.slice (some ad138) l0_0.length c0_0, .bool a0_1] 30 (0, 0)) (by (with_reducible repeat (first | refine blk_drewN ?_ _ | refine blk_drew ?_ | refine blk_alloc ?_ _)); exact BK128.out)) : gb142 ≠ gb128)); clear BK128; clear HB; have BK128 := n0_; have HB := n1_; have BK142 := n2_; have GW142 := n3_; have GE142 := n4_; have NB128_142 := n5_; have NB142_128 := n6_; clear n0_ n1_ n2_ n3_ n4_ n5_ n6_; clear hb hbox hg; have hnb42 := NB142_128.out; have hnc42 := NB128_142.out; have hcz43_0 : w41.cell? ⟨gb142, 0, none⟩ = some (.bool false) := (blk_cell BK142.out 0).trans rfl; have hcz43_1 : w41.cell? ⟨gb142, 1, none⟩ = some (.int .i64 0) := (blk_cell BK142.out 1).trans rfl; have hcz43_2 : w41.cell? ⟨gb142, 2, none⟩ = some (.int .i64 0) := (blk_cell BK142.out 2).trans rfl; have hcz43_3 : w41.cell? ⟨gb142, 3, none⟩ = some (.int .i64 0) := (blk_cell BK142.out 3).trans rfl; have hfz43_0 := blk_frozen BK142.out 0; have hfz43_1 := blk_frozen BK142.out 1; have hfz43_2 := blk_frozen BK142.out 2; have hfz43_3 := blk_frozen BK142.out 3))
                    go_roundg k4
                    case measure => have := HK1.out; have := HJ11.out; have := HJ20.out; have := HK4.out; omega
                    case rel => exact ⟨(wrap64 (x70_4 + 1)), (by first | rfl | (simp; done) | (simp [*]; done)), H', ⟨by have := HK1.out; have := HJ11.out; have := HJ20.out; have := HK4.out; omega⟩, ⟨by (with_reducible repeat (first | refine blk_drewN ?_ _ | refine blk_drew ?_ | refine blk_alloc ?_ _)); refine blk_far ?_ NB128_142.out _; (with_reducible repeat (first | refine blk_drewN ?_ _ | refine blk_drew ?_ | refine blk_alloc ?_ _)); refine blk_far ?_ NB128_142.out _; (with_reducible repeat (first | refine blk_drewN ?_ _ | refine blk_drew ?_ | refine blk_alloc ?_ _)); refine blk_far ?_ NB128_142.out _; (with_reducible repeat (first | refine blk_drewN ?_ _ | refine blk_drew ?_ | refine blk_alloc ?_ _)); refine blk_far ?_ NB128_142.out _; (with_reducible repeat (first | refine blk_drewN ?_ _ | refine blk_drew ?_ | refine blk_alloc ?_ _)); exact BK128.out⟩, ⟨by repeat (first | (with_reducible first | exact HB.out | apply below_alloc | apply pw_below_drewN | apply below_drew1 | refine below_set ?_ GE128.out | refine below_set ?_ GE142.out) | exact HB.out)⟩⟩
                   ·replace c40 := Bool.eq_false_iff.mpr c40
                    subst c40
                    have H1 : (if ((rd_T38 (rd_L5 l0_0 3) x70_4).f1) > 28 then (some false) else (spec_ExprGood.l1 k4 (rd_L5 l0_0 3) ((rd_L5 l0_0 3).length : Int) (wrap64 (x70_4 + 1)))) = some r := by rw [if_neg (show ¬ (false = true) by decide)] at H; exact H
                    clear H
                    have H := H1
                    clear H1
                    by_cases c44 : ((rd_T38 (rd_L5 l0_0 3) x70_4).f1) > 28
                    ·rw [if_pos c44] at H
                     have c44b0 : decide (28 < ((rd_T38 (rd_L5 l0_0 3) x70_4).f1)) = true := decide_eq_true c44
                     clear c44
                     obtain rfl := Option.some.inj H
                     have p141 : 0 ≤ (x70_4 : Int) := of_decide_eq_true (by first | (with_reducible assumption) | assumption)
                     have q141 : x70_4 < ((rd_L5 l0_0 3).length : Int) := of_decide_eq_true (by first | (with_reducible assumption) | assumption)
                     obtain ⟨ad141, e141, hx141_0, hx141_1, hx141_2, hx141_3⟩ := at_T38 HR140_0.out x70_4 p141 q141
                     (try rw [← Nbq39.out] at hx141_0)
                     cases e141
                     replace hx141_0 := (HB.out.cell (World.block_lt_of_cell? w _ hx141_0)).trans hx141_0
                     replace hx141_1 := (HB.out.cell (World.block_lt_of_cell? w _ hx141_1)).trans hx141_1
                     replace hx141_2 := (HB.out.cell (World.block_lt_of_cell? w _ hx141_2)).trans hx141_2
                     replace hx141_3 := (HB.out.cell (World.block_lt_of_cell? w _ hx141_3)).trans hx141_3
                     replace p141 := eq_true p141
                     replace q141 := eq_true q141
                     go_wp2_with (first | ((with_reducible refine gate_dst (N := 6) rfl ?_); (try (refine gate_guard (by rfl) ?_; dsimp only)); refine box_event ?hg (N := 6) ?hd (cs := #[.bool false, .int .i64 0, .int .i64 0, .int .i64 0]) (t := 38) ?hr ?_; (case hd => rfl); (case hg => rfl); (case hr => first | (go_simp; done) | (go_simp; rfl)); intro gb142 hg w45 hbox hb; have n0_ := Aside0.mk (blk_below (g := gb128) (o := .cells #[.slice (some ad138) l0_0.length c0_0, .bool a0_1] 30 (0, 0)) (by (with_reducible repeat (first | refine blk_drewN ?_ _ | refine blk_drew ?_ | refine blk_alloc ?_ _)); exact BK128.out) hb); have n1_ := Aside0.mk (below_step (by repeat (first | (with_reducible first | exact HB.out | apply below_alloc | apply pw_below_drewN | apply below_drew1 | refine below_set ?_ GE128.out) | exact HB.out)) hb); have n2_ := Aside0.mk (hbox); have n3_ := Aside0.mk ((by rw [hg]; exact (below_size (by repeat (first | (with_reducible first | exact HB.out | apply below_alloc | apply pw_below_drewN | apply below_drew1 | refine below_set ?_ GE128.out) | exact HB.out))) : w.heap.size ≤ gb142)); have n4_ := Aside0.mk ((by rw [hg]; exact (below_size (by repeat (first | (with_reducible first | exact HB.out | apply below_alloc | apply pw_below_drewN | apply below_drew1 | refine below_set ?_ GE128.out) | exact HB.out))) : w.heap.size ≤ gb142)); have n5_ := Aside0.mk ((by rw [hg]; exact Nat.ne_of_lt (blk_lt (g := gb128) (o := .cells #[.slice (some ad138) l0_0.length c0_0, .bool a0_1] 30 (0, 0)) (by (with_reducible repeat (first | refine blk_drewN ?_ _ | refine blk_drew ?_ | refine blk_alloc ?_ _)); exact BK128.out)) : gb128 ≠ gb142)); have n6_ := Aside0.mk ((by rw [hg]; exact Nat.ne_of_gt (blk_lt (g := gb128) (o := .cells #[.slice (some ad138) l0_0.length c0_0, .bool a0_1] 30 (0, 0)) (by (with_reducible repeat (first | refine blk_drewN ?_ _ | refine blk_drew ?_ | refine blk_alloc ?_ _)); exact BK128.out)) : gb142 ≠ gb128)); clear BK128; clear HB; have BK128 := n0_; have HB := n1_; have BK142 := n2_; have GW142 := n3_; have GE142 := n4_; have NB128_142 := n5_; have NB142_128 := n6_; clear n0_ n1_ n2_ n3_ n4_ n5_ n6_; clear hb hbox hg; have hnb46 := NB142_128.out; have hnc46 := NB128_142.out; have hcz47_0 : w45.cell? ⟨gb142, 0, none⟩ = some (.bool false) := (blk_cell BK142.out 0).trans rfl; have hcz47_1 : w45.cell? ⟨gb142, 1, none⟩ = some (.int .i64 0) := (blk_cell BK142.out 1).trans rfl; have hcz47_2 : w45.cell? ⟨gb142, 2, none⟩ = some (.int .i64 0) := (blk_cell BK142.out 2).trans rfl; have hcz47_3 : w45.cell? ⟨gb142, 3, none⟩ = some (.int .i64 0) := (blk_cell BK142.out 3).trans rfl; have hfz47_0 := blk_frozen BK142.out 0; have hfz47_1 := blk_frozen BK142.out 1; have hfz47_2 := blk_frozen BK142.out 2; have hfz47_3 := blk_frozen BK142.out 3))
                     go_ret
                     exact ⟨by first | rfl | (simp [errW_none, errW_some] <;> rfl) | (simp [*, errW_none, errW_some] <;> rfl), by repeat (first | (with_reducible first | exact HB.out | apply below_alloc | apply pw_below_drewN | apply below_drew1 | refine below_set ?_ GE128.out | refine below_set ?_ GE142.out) | exact HB.out)⟩
                    ·rw [if_neg c44] at H
                     have c44b0 : decide (28 < ((rd_T38 (rd_L5 l0_0 3) x70_4).f1)) = false := decide_eq_false c44
                     clear c44
                     have H' := Aside0.mk H
                     clear H
                     have p141 : 0 ≤ (x70_4 : Int) := of_decide_eq_true (by first | (with_reducible assumption) | assumption)
                     have q141 : x70_4 < ((rd_L5 l0_0 3).length : Int) := of_decide_eq_true (by first | (with_reducible assumption) | assumption)
                     obtain ⟨ad141, e141, hx141_0, hx141_1, hx141_2, hx141_3⟩ := at_T38 HR140_0.out x70_4 p141 q141
                     (try rw [← Nbq39.out] at hx141_0)
                     cases e141
                     replace hx141_0 := (HB.out.cell (World.block_lt_of_cell? w _ hx141_0)).trans hx141_0
                     replace hx141_1 := (HB.out.cell (World.block_lt_of_cell? w _ hx141_1)).trans hx141_1
                     replace hx141_2 := (HB.out.cell (World.block_lt_of_cell? w _ hx141_2)).trans hx141_2
                     replace hx141_3 := (HB.out.cell (World.block_lt_of_cell? w _ hx141_3)).trans hx141_3
                     replace p141 := eq_true p141
                     replace q141 := eq_true q141
                     go_wp2_with (first | ((with_reducible refine gate_dst (N := 6) rfl ?_); (try (refine gate_guard (by rfl) ?_; dsimp only)); refine box_event ?hg (N := 6) ?hd (cs := #[.bool false, .int .i64 0, .int .i64 0, .int .i64 0]) (t := 38) ?hr ?_; (case hd => rfl); (case hg => rfl); (case hr => first | (go_simp; done) | (go_simp; rfl)); intro gb142 hg w48 hbox hb; have n0_ := Aside0.mk (blk_below (g := gb128) (o := .cells #[.slice (some ad138) l0_0.length c0_0, .bool a0_1] 30 (0, 0)) (by (with_reducible repeat (first | refine blk_drewN ?_ _ | refine blk_drew ?_ | refine blk_alloc ?_ _)); exact BK128.out) hb); have n1_ := Aside0.mk (below_step (by repeat (first | (with_reducible first | exact HB.out | apply below_alloc | apply pw_below_drewN | apply below_drew1 | refine below_set ?_ GE128.out) | exact HB.out)) hb); have n2_ := Aside0.mk (hbox); have n3_ := Aside0.mk ((by rw [hg]; exact (below_size (by repeat (first | (with_reducible first | exact HB.out | apply below_alloc | apply pw_below_drewN | apply below_drew1 | refine below_set ?_ GE128.out) | exact HB.out))) : w.heap.size ≤ gb142)); have n4_ := Aside0.mk ((by rw [hg]; exact (below_size (by repeat (first | (with_reducible first | exact HB.out | apply below_alloc | apply pw_below_drewN | apply below_drew1 | refine below_set ?_ GE128.out) | exact HB.out))) : w.heap.size ≤ gb142)); have n5_ := Aside0.mk ((by rw [hg]; exact Nat.ne_of_lt (blk_lt (g := gb128) (o := .cells #[.slice (some ad138) l0_0.length c0_0, .bool a0_1] 30 (0, 0)) (by (with_reducible repeat (first | refine blk_drewN ?_ _ | refine blk_drew ?_ | refine blk_alloc ?_ _)); exact BK128.out)) : gb128 ≠ gb142)); have n6_ := Aside0.mk ((by rw [hg]; exact Nat.ne_of_gt (blk_lt (g := gb128) (o := .cells #[.slice (some ad138) l0_0.length c0_0, .bool a0_1] 30 (0, 0)) (by (with_reducible repeat (first | refine blk_drewN ?_ _ | refine blk_drew ?_ | refine blk_alloc ?_ _)); exact BK128.out)) : gb142 ≠ gb128)); clear BK128; clear HB; have BK128 := n0_; have HB := n1_; have BK142 := n2_; have GW142 := n3_; have GE142 := n4_; have NB128_142 := n5_; have NB142_128 := n6_; clear n0_ n1_ n2_ n3_ n4_ n5_ n6_; clear hb hbox hg; have hnb49 := NB142_128.out; have hnc49 := NB128_142.out; have hcz50_0 : w48.cell? ⟨gb142, 0, none⟩ = some (.bool false) := (blk_cell BK142.out 0).trans rfl; have hcz50_1 : w48.cell? ⟨gb142, 1, none⟩ = some (.int .i64 0) := (blk_cell BK142.out 1).trans rfl; have hcz50_2 : w48.cell? ⟨gb142, 2, none⟩ = some (.int .i64 0) := (blk_cell BK142.out 2).trans rfl; have hcz50_3 : w48.cell? ⟨gb142, 3, none⟩ = some (.int .i64 0) := (blk_cell BK142.out 3).trans rfl; have hfz50_0 := blk_frozen BK142.out 0; have hfz50_1 := blk_frozen BK142.out 1; have hfz50_2 := blk_frozen BK142.out 2; have hfz50_3 := blk_frozen BK142.out 3))
                     go_roundg k4
                     case measure => have := HK1.out; have := HJ11.out; have := HJ20.out; have := HK4.out; omega
                     case rel => exact ⟨(wrap64 (x70_4 + 1)), (by first | rfl | (simp; done) | (simp [*]; done)), H', ⟨by have := HK1.out; have := HJ11.out; have := HJ20.out; have := HK4.out; omega⟩, ⟨by (with_reducible repeat (first | refine blk_drewN ?_ _ | refine blk_drew ?_ | refine blk_alloc ?_ _)); refine blk_far ?_ NB128_142.out _; (with_reducible repeat (first | refine blk_drewN ?_ _ | refine blk_drew ?_ | refine blk_alloc ?_ _)); refine blk_far ?_ NB128_142.out _; (with_reducible repeat (first | refine blk_drewN ?_ _ | refine blk_drew ?_ | refine blk_alloc ?_ _)); refine blk_far ?_ NB128_142.out _; (with_reducible repeat (first | refine blk_drewN ?_ _ | refine blk_drew ?_ | refine blk_alloc ?_ _)); refine blk_far ?_ NB128_142.out _; (with_reducible repeat (first | refine blk_drewN ?_ _ | refine blk_drew ?_ | refine blk_alloc ?_ _)); exact BK128.out⟩, ⟨by repeat (first | (with_reducible first | exact HB.out | apply below_alloc | apply pw_below_drewN | apply below_drew1 | refine below_set ?_ GE128.out | refine below_set ?_ GE142.out) | exact HB.out)⟩⟩
                  ·rw [if_neg c38] at H
                   exact absurd H (by simp)
                 ·rw [if_neg c37] at H
                  exact absurd H (by simp)
                ·rw [if_neg c36] at H
                 have c36b0 : decide (x70_4 < ((rd_L5 l0_0 3).length : Int)) = false := decide_eq_false c36
                 clear c36
                 obtain rfl := Option.some.inj H
                 go_wp2
                 go_ret
                 exact ⟨by first | rfl | (simp [errW_none, errW_some] <;> rfl) | (simp [*, errW_none, errW_some] <;> rfl), by repeat (first | (with_reducible first | exact HB.out | apply below_alloc | apply pw_below_drewN | apply below_drew1 | refine below_set ?_ GE128.out) | exact HB.out)⟩
             ·rw [if_neg c34] at H
              exact absurd H (by simp)
           ·rw [if_neg c30] at H
            exact absurd H (by simp)
 ·rw [if_neg c2] at H
  have c2b0 : ((l0_0.length : Int) == 6) = false := beq_eq_false_iff_ne.mpr c2
  have c2b1 : ((l0_0.length : Int) != 6) = true := bne_iff_ne.mpr c2
  obtain rfl := Option.some.inj H
  go_enter Tryz.func28, Tryz.ntmps28
  go_wp2_with (first | ((with_reducible refine gate_dst (N := 1) rfl ?_); (try (refine gate_guard (by rfl) ?_; dsimp only)); refine box_event ?hg (N := 1) ?hd (cs := #[.slice A0_0 l0_0.length c0_0, .bool a0_1]) (t := 30) ?hr ?_; (case hd => rfl); (case hg => rfl); (case hr => first | (go_simp; done) | (go_simp; rfl)); intro gb128 hg w51 hbox hb; have n0_ := Aside0.mk (below_step (by repeat (first | (with_reducible first | exact HB.out | apply below_alloc | apply pw_below_drewN | apply below_drew1) | exact HB.out)) hb); have n1_ := Aside0.mk (hbox); have n2_ := Aside0.mk ((by rw [hg]; exact (below_size (by repeat (first | (with_reducible first | exact HB.out | apply below_alloc | apply pw_below_drewN | apply below_drew1) | exact HB.out))) : w.heap.size ≤ gb128)); have n3_ := Aside0.mk ((by rw [hg]; exact (below_size (by repeat (first | (with_reducible first | exact HB.out | apply below_alloc | apply pw_below_drewN | apply below_drew1) | exact HB.out))) : w.heap.size ≤ gb128)); clear HB; have HB := n0_; have BK128 := n1_; have GW128 := n2_; have GE128 := n3_; clear n0_ n1_ n2_ n3_; clear hb hbox hg; have hcz52_0 : w51.cell? ⟨gb128, 0, none⟩ = some (.slice A0_0 l0_0.length c0_0) := (blk_cell BK128.out 0).trans rfl; have hcz52_1 : w51.cell? ⟨gb128, 1, none⟩ = some (.bool a0_1) := (blk_cell BK128.out 1).trans rfl; have hfz52_0 := blk_frozen BK128.out 0; have hfz52_1 := blk_frozen BK128.out 1))
  go_ret
  exact ⟨by first | rfl | (simp [errW_none, errW_some] <;> rfl) | (simp [*, errW_none, errW_some] <;> rfl), by repeat (first | (with_reducible first | exact HB.out | apply below_alloc | apply pw_below_drewN | apply below_drew1 | refine below_set ?_ GE128.out) | exact HB.out)⟩
end Go.Proofs.YtemgofomhjabpaaGreatDoor.Core
namespace Go.Proofs.YtemgofomhjabpaaGreatDoor.Core
open Go.RowKit Go.Proofs.YtemgofomhjabpaaGreatDoorW.PrintWords Go.Proofs.YtemgofomhjabpaaGreatDoorW.PrintLast Go.Proofs.YtemgofomhjabpaaGreatDoorW.PrintMore
attribute [local go_sem] max2_int min2_int max_two min_two max_three min_three max_four min_four   -- for this text's walks alone
set_option linter.unusedVariables false
set_option linter.unusedSimpArgs false
def laws_moment.f (a0_0 : Int) (a0_1 : Int) (a0_2 : Int) (a0_3 : Int) (a0_4 : Int) (a0_5 : Int) : Option (Int × Int × Int × Int × Int × Int) := some (a0_0, a0_1, a0_2, a0_3, a0_4, a0_5)
set_option maxHeartbeats 8000000 in
set_option maxRecDepth 100000 in
theorem laws_moment.calls (a0_0 : Int) (a0_1 : Int) (a0_2 : Int) (a0_3 : Int) (a0_4 : Int) (a0_5 : Int) (r1 : Int) (r2 : Int) (r3 : Int) (r4 : Int) (r5 : Int) (r6 : Int) (w : World) (h : laws_moment.f a0_0 a0_1 a0_2 a0_3 a0_4 a0_5 = some (r1, r2, r3, r4, r5, r6)) :
  Calls Tryz.prog 19 #[.agg #[.int .i64 a0_0, .int .i64 a0_1, .int .i64 a0_2, .int .i64 a0_3, .int .i64 a0_4, .int .i64 a0_5]] w fun e w' => e = .returned (.agg #[.int .i64 r1, .int .i64 r2, .int .i64 r3, .int .i64 r4, .int .i64 r5, .int .i64 r6]) ∧ Below w.heap.size w w' := by
 have hu26 := Tryz.underlying26
 have hu43 := Tryz.underlying43
 have HB := Aside0.mk (Below.refl w.heap.size w)
 have H : (some (a0_0, a0_1, a0_2, a0_3, a0_4, a0_5)) = some (r1, r2, r3, r4, r5, r6) := h
 clear h
 simp only [Option.some.injEq, Prod.mk.injEq] at H
 obtain ⟨rfl, rfl, rfl, rfl, rfl, rfl⟩ := H
 go_enter Tryz.func19, Tryz.ntmps19
 go_wp2_with (first | ((with_reducible refine gate_dst (N := 1) rfl ?_); refine box_event ?hg (N := 1) ?hd (cs := #[.int .i64 a0_0, .int .i64 a0_1, .int .i64 a0_2, .int .i64 a0_3, .int .i64 a0_4, .int .i64 a0_5]) (t := 26) ?hr ?_; (case hd => rfl); (case hg => rfl); (case hr => first | (go_simp; done) | (go_simp; rfl)); intro gb119 hg w2 hbox hb; have n0_ := Aside0.mk (below_step (by repeat (first | (with_reducible first | exact HB.out | apply below_alloc | apply pw_below_drewN | apply below_drew1) | exact HB.out)) hb); have n1_ := Aside0.mk (hbox); have n2_ := Aside0.mk ((by rw [hg]; exact (below_size (by repeat (first | (with_reducible first | exact HB.out | apply below_alloc | apply pw_below_drewN | apply below_drew1) | exact HB.out))) : w.heap.size ≤ gb119)); have n3_ := Aside0.mk ((by rw [hg]; exact (below_size (by repeat (first | (with_reducible first | exact HB.out | apply below_alloc | apply pw_below_drewN | apply below_drew1) | exact HB.out))) : w.heap.size ≤ gb119)); clear HB; have HB := n0_; have BK119 := n1_; have GW119 := n2_; have GE119 := n3_; clear n0_ n1_ n2_ n3_; clear hb hbox hg) | ((with_reducible refine gate_dst (N := 2) rfl ?_); refine box_event ?hg (N := 2) ?hd (cs := #[.int .i64 0, .int .i64 0, .int .i64 0, .int .i64 0, .int .i64 0, .int .i64 0]) (t := 43) ?hr ?_; (case hd => rfl); (case hg => rfl); (case hr => first | (go_simp; done) | (go_simp; rfl)); intro gb120 hg w3 hbox hb; have n0_ := Aside0.mk (blk_below (g := gb119) (o := .cells #[.int .i64 a0_0, .int .i64 a0_1, .int .i64 a0_2, .int .i64 a0_3, .int .i64 a0_4, .int .i64 a0_5] 26 (0, 0)) (by (with_reducible repeat (first | refine blk_drewN ?_ _ | refine blk_drew ?_ | refine blk_alloc ?_ _)); exact BK119.out) hb); have n1_ := Aside0.mk (below_step (by repeat (first | (with_reducible first | exact HB.out | apply below_alloc | apply pw_below_drewN | apply below_drew1 | refine below_set ?_ GE119.out) | exact HB.out)) hb); have n2_ := Aside0.mk (hbox); have n3_ := Aside0.mk ((by rw [hg]; exact (below_size (by repeat (first | (with_reducible first | exact HB.out | apply below_alloc | apply pw_below_drewN | apply below_drew1 | refine below_set ?_ GE119.out) | exact HB.out))) : w.heap.size ≤ gb120)); have n4_ := Aside0.mk ((by rw [hg]; exact (below_size (by repeat (first | (with_reducible first | exact HB.out | apply below_alloc | apply pw_below_drewN | apply below_drew1 | refine below_set ?_ GE119.out) | exact HB.out))) : w.heap.size ≤ gb120)); have n5_ := Aside0.mk ((by rw [hg]; exact Nat.ne_of_lt (blk_lt (g := gb119) (o := .cells #[.int .i64 a0_0, .int .i64 a0_1, .int .i64 a0_2, .int .i64 a0_3, .int .i64 a0_4, .int .i64 a0_5] 26 (0, 0)) (by (with_reducible repeat (first | refine blk_drewN ?_ _ | refine blk_drew ?_ | refine blk_alloc ?_ _)); exact BK119.out)) : gb119 ≠ gb120)); have n6_ := Aside0.mk ((by rw [hg]; exact Nat.ne_of_gt (blk_lt (g := gb119) (o := .cells #[.int .i64 a0_0, .int .i64 a0_1, .int .i64 a0_2, .int .i64 a0_3, .int .i64 a0_4, .int .i64 a0_5] 26 (0, 0)) (by (with_reducible repeat (first | refine blk_drewN ?_ _ | refine blk_drew ?_ | refine blk_alloc ?_ _)); exact BK119.out)) : gb120 ≠ gb119)); clear BK119; clear HB; have BK119 := n0_; have HB := n1_; have BK120 := n2_; have GW120 := n3_; have GE120 := n4_; have NB119_120 := n5_; have NB120_119 := n6_; clear n0_ n1_ n2_ n3_ n4_ n5_ n6_; clear hb hbox hg; have hnb4 := NB119_120.out; have hnc4 := NB120_119.out; have hcz5_0 : w3.cell? ⟨gb119, 0, none⟩ = some (.int .i64 a0_0) := (blk_cell BK119.out 0).trans rfl; have hcz5_1 : w3.cell? ⟨gb119, 1, none⟩ = some (.int .i64 a0_1) := (blk_cell BK119.out 1).trans rfl; have hcz5_2 : w3.cell? ⟨gb119, 2, none⟩ = some (.int .i64 a0_2) := (blk_cell BK119.out 2).trans rfl; have hcz5_3 : w3.cell? ⟨gb119, 3, none⟩ = some (.int .i64 a0_3) := (blk_cell BK119.out 3).trans rfl; have hcz5_4 : w3.cell? ⟨gb119, 4, none⟩ = some (.int .i64 a0_4) := (blk_cell BK119.out 4).trans rfl; have hcz5_5 : w3.cell? ⟨gb119, 5, none⟩ = some (.int .i64 a0_5) := (blk_cell BK119.out 5).trans rfl; have hfz5_0 := blk_frozen BK119.out 0; have hfz5_1 := blk_frozen BK119.out 1; have hfz5_2 := blk_frozen BK119.out 2; have hfz5_3 := blk_frozen BK119.out 3; have hfz5_4 := blk_frozen BK119.out 4; have hfz5_5 := blk_frozen BK119.out 5; have hcz6_0 : w3.cell? ⟨gb120, 0, none⟩ = some (.int .i64 0) := (blk_cell BK120.out 0).trans rfl; have hcz6_1 : w3.cell? ⟨gb120, 1, none⟩ = some (.int .i64 0) := (blk_cell BK120.out 1).trans rfl; have hcz6_2 : w3.cell? ⟨gb120, 2, none⟩ = some (.int .i64 0) := (blk_cell BK120.out 2).trans rfl; have hcz6_3 : w3.cell? ⟨gb120, 3, none⟩ = some (.int .i64 0) := (blk_cell BK120.out 3).trans rfl; have hcz6_4 : w3.cell? ⟨gb120, 4, none⟩ = some (.int .i64 0) := (blk_cell BK120.out 4).trans rfl; have hcz6_5 : w3.cell? ⟨gb120, 5, none⟩ = some (.int .i64 0) := (blk_cell BK120.out 5).trans rfl; have hfz6_0 := blk_frozen BK120.out 0; have hfz6_1 := blk_frozen BK120.out 1; have hfz6_2 := blk_frozen BK120.out 2; have hfz6_3 := blk_frozen BK120.out 3; have hfz6_4 := blk_frozen BK120.out 4; have hfz6_5 := blk_frozen BK120.out 5))
 refine bodyPost_ret (results_cell_row rfl _ _ gb120 43 #[.int .i64 a0_0, .int .i64 a0_1, .int .i64 a0_2, .int .i64 a0_3, .int .i64 a0_4, .int .i64 a0_5] (0, 0) _ rfl (by (with_reducible repeat (first | refine blk_drewN ?_ _ | refine blk_drew ?_ | refine blk_alloc ?_ _)); refine blk_put (cs := #[.int .i64 a0_0, .int .i64 a0_1, .int .i64 a0_2, .int .i64 a0_3, .int .i64 a0_4, .int .i64 0]) ?_ 5 _ rfl; (with_reducible repeat (first | refine blk_drewN ?_ _ | refine blk_drew ?_ | refine blk_alloc ?_ _)); refine blk_put (cs := #[.int .i64 a0_0, .int .i64 a0_1, .int .i64 a0_2, .int .i64 a0_3, .int .i64 0, .int .i64 0]) ?_ 4 _ rfl; (with_reducible repeat (first | refine blk_drewN ?_ _ | refine blk_drew ?_ | refine blk_alloc ?_ _)); refine blk_put (cs := #[.int .i64 a0_0, .int .i64 a0_1, .int .i64 a0_2, .int .i64 0, .int .i64 0, .int .i64 0]) ?_ 3 _ rfl; (with_reducible repeat (first | refine blk_drewN ?_ _ | refine blk_drew ?_ | refine blk_alloc ?_ _)); refine blk_put (cs := #[.int .i64 a0_0, .int .i64 a0_1, .int .i64 0, .int .i64 0, .int .i64 0, .int .i64 0]) ?_ 2 _ rfl; (with_reducible repeat (first | refine blk_drewN ?_ _ | refine blk_drew ?_ | refine blk_alloc ?_ _)); refine blk_put (cs := #[.int .i64 a0_0, .int .i64 0, .int .i64 0, .int .i64 0, .int .i64 0, .int .i64 0]) ?_ 1 _ rfl; (with_reducible repeat (first | refine blk_drewN ?_ _ | refine blk_drew ?_ | refine blk_alloc ?_ _)); refine blk_put (cs := #[.int .i64 0, .int .i64 0, .int .i64 0, .int .i64 0, .int .i64 0, .int .i64 0]) ?_ 0 _ rfl; (with_reducible repeat (first | refine blk_drewN ?_ _ | refine blk_drew ?_ | refine blk_alloc ?_ _)); exact BK120.out) Tryz.underlying43 rfl (by kernel_rfl)) rfl ?_
 exact ⟨by first | rfl | (simp [errW_none, errW_some] <;> rfl) | (simp [*, errW_none, errW_some] <;> rfl), by repeat (first | (with_reducible first | exact HB.out | apply below_alloc | apply pw_below_drewN | apply below_drew1 | refine below_set ?_ GE119.out | refine below_set ?_ GE120.out) | exact HB.out)⟩
end Go.Proofs.YtemgofomhjabpaaGreatDoor.Core
namespace Go.Proofs.YtemgofomhjabpaaGreatDoor.Core
open Go.RowKit
theorem calls_one {P : Program} {f : FuncId} {args : Array Value} {w : World} {r r' : Value} {R R' : World → Prop} (h : Calls P f args w fun e w' => e = .returned r ∧ R w') (h' : Calls P f args w fun e w' => e = .returned r' ∧ R' w') (hi : P.inits.idxOf? f = none) : r = r' := by
 have g : ∀ {q : Value} {Q : World → Prop}, Calls P f args w (fun e w' => e = .returned q ∧ Q w') → Calls P f args w fun | .returned v, w' => v = q ∧ w' = w' | _, _ => False :=
  fun h => h.mono fun e w' h => by obtain ⟨rfl, _⟩ := h; exact ⟨rfl, rfl⟩
 obtain ⟨n, v, w1, e1, r1, _⟩ := (g h).done hi
 obtain ⟨m, v', w2, e2, r2, _⟩ := (g h').done hi
 have := runN_same_end e1 e2
 injection this with hv
 rw [← r1, ← r2, hv]
end Go.Proofs.YtemgofomhjabpaaGreatDoor.Core
namespace Go.Proofs.YtemgofomhjabpaaGreatDoor.Core
open Go.RowKit
def GoodC (y mo d h mi s : Int) (b : Bool) : Prop := ∀ w, Calls Tryz.prog 22 #[.agg #[.int .i64 y, .int .i64 mo, .int .i64 d, .int .i64 h, .int .i64 mi, .int .i64 s]] w fun e w' => e = .returned (.bool b) ∧ Below w.heap.size w w'
open Classical in
noncomputable def spec_MomentGood.f (y mo d h mi s : Int) : Option Bool :=
 if hx : ∃ p : Bool, GoodC y mo d h mi s p then some (Classical.choose hx) else none
theorem spec_MomentGood.calls (y mo d h mi s : Int) (r : Bool) (w : World) (hf : spec_MomentGood.f y mo d h mi s = some r) :
  Calls Tryz.prog 22 #[.agg #[.int .i64 y, .int .i64 mo, .int .i64 d, .int .i64 h, .int .i64 mi, .int .i64 s]] w fun e w' => e = .returned (.bool r) ∧ Below w.heap.size w w' := by
 unfold spec_MomentGood.f at hf
 split at hf
 ·rename_i hx
  have hp := Classical.choose_spec hx
  rw [Option.some.inj hf] at hp
  exact hp w
 ·cases hf
theorem GoodC.eq {y mo d h mi s : Int} {b : Bool} (hd : GoodC y mo d h mi s b) : spec_MomentGood.f y mo d h mi s = some b := by
 have hx : ∃ p : Bool, GoodC y mo d h mi s p := ⟨b, hd⟩
 unfold spec_MomentGood.f
 rw [dif_pos hx]
 have hp := Classical.choose_spec hx
 have e := calls_one (hp default) (hd default) (by kernel_rfl)
 injection e with e
 rw [e]
end Go.Proofs.YtemgofomhjabpaaGreatDoor.Core
namespace Go.Proofs.YtemgofomhjabpaaGreatDoor.Core
open Go.RowKit Go.Proofs.YtemgofomhjabpaaGreatDoorW.PrintWords Go.Proofs.YtemgofomhjabpaaGreatDoorW.PrintLast Go.Proofs.YtemgofomhjabpaaGreatDoorW.PrintMore
attribute [local go_sem] max2_int min2_int max_two min_two max_three min_three max_four min_four   -- for this text's walks alone
set_option linter.unusedVariables false
set_option linter.unusedSimpArgs false
noncomputable def laws_asked.f (k : Nat) (l0_0 : List (List (S38))) (a0_1 : Bool) (a1_0 : Int) (a1_1 : Int) (a1_2 : Int) (a1_3 : Int) (a1_4 : Int) (a1_5 : Int) : Option (Bool) := (spec_ExprGood.f k l0_0 a0_1).bind fun t145 => (if t145 = true then ((laws_moment.f a1_0 a1_1 a1_2 a1_3 a1_4 a1_5).bind fun bt146 => ((spec_MomentGood.f bt146.1 bt146.2.1 bt146.2.2.1 bt146.2.2.2.1 bt146.2.2.2.2.1 bt146.2.2.2.2.2).bind fun t152 => (some t152))) else (some false))
set_option maxHeartbeats 8000000 in
set_option maxRecDepth 100000 in
theorem laws_asked.calls (k : Nat) (A0_0 : Option Addr) (c0_0 : Nat) (l0_0 : List (List (S38))) (a0_1 : Bool) (a1_0 : Int) (a1_1 : Int) (a1_2 : Int) (a1_3 : Int) (a1_4 : Int) (a1_5 : Int) (r : Bool) (w : World) (hr0_0 : Kd.C (Kd.slice 38 k38) w A0_0 l0_0.length l0_0) (hc0_0 : l0_0.length ≤ c0_0) (h : laws_asked.f k l0_0 a0_1 a1_0 a1_1 a1_2 a1_3 a1_4 a1_5 = some r) :
  Calls Tryz.prog 13 #[.agg #[.slice A0_0 l0_0.length c0_0, .bool a0_1], .agg #[.int .i64 a1_0, .int .i64 a1_1, .int .i64 a1_2, .int .i64 a1_3, .int .i64 a1_4, .int .i64 a1_5]] w fun e w' => e = .returned (.bool r) ∧ Below w.heap.size w w' := by
 have hu30 := Tryz.underlying30
 have hu26 := Tryz.underlying26
 have HR0_0 := Aside0.mk hr0_0
 have HC0_0 := Aside0.mk hc0_0
 clear hr0_0 hc0_0
 have HB := Aside0.mk (Below.refl w.heap.size w)
 have H : ((spec_ExprGood.f k l0_0 a0_1).bind fun t145 => (if t145 = true then ((laws_moment.f a1_0 a1_1 a1_2 a1_3 a1_4 a1_5).bind fun bt146 => ((spec_MomentGood.f bt146.1 bt146.2.1 bt146.2.2.1 bt146.2.2.2.1 bt146.2.2.2.2.1 bt146.2.2.2.2.2).bind fun t152 => (some t152))) else (some false))) = some r := h
 clear h
 replace H := Option.bind_eq_some_iff.mp H
 obtain ⟨t145, A30, H⟩ := H
 replace H : (if t145 = true then ((laws_moment.f a1_0 a1_1 a1_2 a1_3 a1_4 a1_5).bind fun bt146 => ((spec_MomentGood.f bt146.1 bt146.2.1 bt146.2.2.1 bt146.2.2.2.1 bt146.2.2.2.2.1 bt146.2.2.2.2.2).bind fun t152 => (some t152))) else (some false)) = some r := H
 have A3 := Aside0.mk A30
 clear A30
 by_cases c4 : t145 = true
 ·subst c4
  have H1 : ((laws_moment.f a1_0 a1_1 a1_2 a1_3 a1_4 a1_5).bind fun bt146 => ((spec_MomentGood.f bt146.1 bt146.2.1 bt146.2.2.1 bt146.2.2.2.1 bt146.2.2.2.2.1 bt146.2.2.2.2.2).bind fun t152 => (some t152))) = some r := by rw [if_pos rfl] at H; exact H
  clear H
  have H := H1
  clear H1
  replace H := Option.bind_eq_some_iff.mp H
  obtain ⟨⟨t146, t147, t148, t149, t150, t151⟩, A50, H⟩ := H
  replace H : ((spec_MomentGood.f t146 t147 t148 t149 t150 t151).bind fun t152 => (some t152)) = some r := H
  have A5 := Aside0.mk A50
  clear A50
  replace H := Option.bind_eq_some_iff.mp H
  obtain ⟨t152, A60, H⟩ := H
  replace H : (some t152) = some r := H
  have A6 := Aside0.mk A60
  clear A60
  obtain rfl := Option.some.inj H
  go_enter Tryz.func13, Tryz.ntmps13
  go_wp2_with (first | ((with_reducible refine gate_dst (N := 2) rfl ?_); refine box_event ?hg (N := 2) ?hd (cs := #[.slice A0_0 l0_0.length c0_0, .bool a0_1]) (t := 30) ?hr ?_; (case hd => rfl); (case hg => rfl); (case hr => first | (go_simp; done) | (go_simp; rfl)); intro gb143 hg w7 hbox hb; have n0_ := Aside0.mk (below_step (by repeat (first | (with_reducible first | exact HB.out | apply below_alloc | apply pw_below_drewN | apply below_drew1) | exact HB.out)) hb); have n1_ := Aside0.mk (hbox); have n2_ := Aside0.mk ((by rw [hg]; exact (below_size (by repeat (first | (with_reducible first | exact HB.out | apply below_alloc | apply pw_below_drewN | apply below_drew1) | exact HB.out))) : w.heap.size ≤ gb143)); have n3_ := Aside0.mk ((by rw [hg]; exact (below_size (by repeat (first | (with_reducible first | exact HB.out | apply below_alloc | apply pw_below_drewN | apply below_drew1) | exact HB.out))) : w.heap.size ≤ gb143)); clear HB; have HB := n0_; have BK143 := n1_; have GW143 := n2_; have GE143 := n3_; clear n0_ n1_ n2_ n3_; clear hb hbox hg) | ((with_reducible refine gate_dst (N := 3) rfl ?_); refine box_event ?hg (N := 3) ?hd (cs := #[.int .i64 a1_0, .int .i64 a1_1, .int .i64 a1_2, .int .i64 a1_3, .int .i64 a1_4, .int .i64 a1_5]) (t := 26) ?hr ?_; (case hd => rfl); (case hg => rfl); (case hr => first | (go_simp; done) | (go_simp; rfl)); intro gb144 hg w8 hbox hb; have n0_ := Aside0.mk (blk_below (g := gb143) (o := .cells #[.slice A0_0 l0_0.length c0_0, .bool a0_1] 30 (0, 0)) (by (with_reducible repeat (first | refine blk_drewN ?_ _ | refine blk_drew ?_ | refine blk_alloc ?_ _)); exact BK143.out) hb); have n1_ := Aside0.mk (below_step (by repeat (first | (with_reducible first | exact HB.out | apply below_alloc | apply pw_below_drewN | apply below_drew1 | refine below_set ?_ GE143.out) | exact HB.out)) hb); have n2_ := Aside0.mk (hbox); have n3_ := Aside0.mk ((by rw [hg]; exact (below_size (by repeat (first | (with_reducible first | exact HB.out | apply below_alloc | apply pw_below_drewN | apply below_drew1 | refine below_set ?_ GE143.out) | exact HB.out))) : w.heap.size ≤ gb144)); have n4_ := Aside0.mk ((by rw [hg]; exact (below_size (by repeat (first | (with_reducible first | exact HB.out | apply below_alloc | apply pw_below_drewN | apply below_drew1 | refine below_set ?_ GE143.out) | exact HB.out))) : w.heap.size ≤ gb144)); have n5_ := Aside0.mk ((by rw [hg]; exact Nat.ne_of_lt (blk_lt (g := gb143) (o := .cells #[.slice A0_0 l0_0.length c0_0, .bool a0_1] 30 (0, 0)) (by (with_reducible repeat (first | refine blk_drewN ?_ _ | refine blk_drew ?_ | refine blk_alloc ?_ _)); exact BK143.out)) : gb143 ≠ gb144)); have n6_ := Aside0.mk ((by rw [hg]; exact Nat.ne_of_gt (blk_lt (g := gb143) (o := .cells #[.slice A0_0 l0_0.length c0_0, .bool a0_1] 30 (0, 0)) (by (with_reducible repeat (first | refine blk_drewN ?_ _ | refine blk_drew ?_ | refine blk_alloc ?_ _)); exact BK143.out)) : gb144 ≠ gb143)); clear BK143; clear HB; have BK143 := n0_; have HB := n1_; have BK144 := n2_; have GW144 := n3_; have GE144 := n4_; have NB143_144 := n5_; have NB144_143 := n6_; clear n0_ n1_ n2_ n3_ n4_ n5_ n6_; clear hb hbox hg; have hnb9 := NB143_144.out; have hnc9 := NB144_143.out; have hcz10_0 : w8.cell? ⟨gb143, 0, none⟩ = some (.slice A0_0 l0_0.length c0_0) := (blk_cell BK143.out 0).trans rfl; have hcz10_1 : w8.cell? ⟨gb143, 1, none⟩ = some (.bool a0_1) := (blk_cell BK143.out 1).trans rfl; have hfz10_0 := blk_frozen BK143.out 0; have hfz10_1 := blk_frozen BK143.out 1) | ((with_reducible refine gate_callee (f := 28) rfl ?_); refine goesL_ (some 6) rfl rfl Tryz.func28 (by kernel_rfl) rfl #[.agg #[.slice A0_0 l0_0.length c0_0, .bool a0_1]] rfl (by (try simp only [List.map_toArray, List.map_cons, List.map_nil]); first | done | rfl | (simp only [List.length_drop, List.length_take]; rfl)) ?_; (with_reducible refine (spec_ExprGood.calls k _ _ l0_0 a0_1 true _ ?side1 ?side2 A3.out).mono ?_); (case side1 => repeat (first | exact (Kd.C_below HR0_0.out HB.out) | (with_reducible refine Kd.C_alloc ?_ _) | (with_reducible refine Kd.C_drewN ?_ _) | (with_reducible refine Kd.C_drew ?_))); (case side2 => exact HC0_0.out); rintro e w11 ⟨rfl, hb⟩; refine ⟨_, rfl, ?_⟩; have n0_ := Aside0.mk (blk_below (g := gb143) (o := .cells #[.slice A0_0 l0_0.length c0_0, .bool a0_1] 30 (0, 0)) (by (with_reducible repeat (first | refine blk_drewN ?_ _ | refine blk_drew ?_ | refine blk_alloc ?_ _)); exact BK143.out) hb); have n1_ := Aside0.mk (blk_below (g := gb144) (o := .cells #[.int .i64 a1_0, .int .i64 a1_1, .int .i64 a1_2, .int .i64 a1_3, .int .i64 a1_4, .int .i64 a1_5] 26 (0, 0)) (by (with_reducible repeat (first | refine blk_drewN ?_ _ | refine blk_drew ?_ | refine blk_alloc ?_ _)); exact BK144.out) hb); have n2_ := Aside0.mk (below_step (by repeat (first | (with_reducible first | exact HB.out | apply below_alloc | apply pw_below_drewN | apply below_drew1 | refine below_set ?_ GE143.out | refine below_set ?_ GE144.out) | exact HB.out)) hb); clear BK143; clear BK144; clear HB; have BK143 := n0_; have BK144 := n1_; have HB := n2_; clear n0_ n1_ n2_; (try clear hb); (try clear hb2); (try clear hk); (try clear hi); have hcz12_0 : w11.cell? ⟨gb144, 0, none⟩ = some (.int .i64 a1_0) := (blk_cell BK144.out 0).trans rfl; have hcz12_1 : w11.cell? ⟨gb144, 1, none⟩ = some (.int .i64 a1_1) := (blk_cell BK144.out 1).trans rfl; have hcz12_2 : w11.cell? ⟨gb144, 2, none⟩ = some (.int .i64 a1_2) := (blk_cell BK144.out 2).trans rfl; have hcz12_3 : w11.cell? ⟨gb144, 3, none⟩ = some (.int .i64 a1_3) := (blk_cell BK144.out 3).trans rfl; have hcz12_4 : w11.cell? ⟨gb144, 4, none⟩ = some (.int .i64 a1_4) := (blk_cell BK144.out 4).trans rfl; have hcz12_5 : w11.cell? ⟨gb144, 5, none⟩ = some (.int .i64 a1_5) := (blk_cell BK144.out 5).trans rfl; have hfz12_0 := blk_frozen BK144.out 0; have hfz12_1 := blk_frozen BK144.out 1; have hfz12_2 := blk_frozen BK144.out 2; have hfz12_3 := blk_frozen BK144.out 3; have hfz12_4 := blk_frozen BK144.out 4; have hfz12_5 := blk_frozen BK144.out 5) | (go_at_call 19; (with_reducible refine (laws_moment.calls a1_0 a1_1 a1_2 a1_3 a1_4 a1_5 t146 t147 t148 t149 t150 t151 _ A5.out).mono ?_); rintro e w13 ⟨rfl, hb⟩; have n0_ := Aside0.mk (blk_below (g := gb143) (o := .cells #[.slice A0_0 l0_0.length c0_0, .bool a0_1] 30 (0, 0)) (by (with_reducible repeat (first | refine blk_drewN ?_ _ | refine blk_drew ?_ | refine blk_alloc ?_ _)); exact BK143.out) hb); have n1_ := Aside0.mk (blk_below (g := gb144) (o := .cells #[.int .i64 a1_0, .int .i64 a1_1, .int .i64 a1_2, .int .i64 a1_3, .int .i64 a1_4, .int .i64 a1_5] 26 (0, 0)) (by (with_reducible repeat (first | refine blk_drewN ?_ _ | refine blk_drew ?_ | refine blk_alloc ?_ _)); exact BK144.out) hb); have n2_ := Aside0.mk (below_step (by repeat (first | (with_reducible first | exact HB.out | apply below_alloc | apply pw_below_drewN | apply below_drew1 | refine below_set ?_ GE143.out | refine below_set ?_ GE144.out) | exact HB.out)) hb); clear BK143; clear BK144; clear HB; have BK143 := n0_; have BK144 := n1_; have HB := n2_; clear n0_ n1_ n2_; (try clear hb); (try clear hb2); (try clear hk); (try clear hi)) | (go_at_call 22; (with_reducible refine (spec_MomentGood.calls t146 t147 t148 t149 t150 t151 t152 _ A6.out).mono ?_); rintro e w14 ⟨rfl, hb⟩; have n0_ := Aside0.mk (blk_below (g := gb143) (o := .cells #[.slice A0_0 l0_0.length c0_0, .bool a0_1] 30 (0, 0)) (by (with_reducible repeat (first | refine blk_drewN ?_ _ | refine blk_drew ?_ | refine blk_alloc ?_ _)); exact BK143.out) hb); have n1_ := Aside0.mk (blk_below (g := gb144) (o := .cells #[.int .i64 a1_0, .int .i64 a1_1, .int .i64 a1_2, .int .i64 a1_3, .int .i64 a1_4, .int .i64 a1_5] 26 (0, 0)) (by (with_reducible repeat (first | refine blk_drewN ?_ _ | refine blk_drew ?_ | refine blk_alloc ?_ _)); exact BK144.out) hb); have n2_ := Aside0.mk (below_step (by repeat (first | (with_reducible first | exact HB.out | apply below_alloc | apply pw_below_drewN | apply below_drew1 | refine below_set ?_ GE143.out | refine below_set ?_ GE144.out) | exact HB.out)) hb); clear BK143; clear BK144; clear HB; have BK143 := n0_; have BK144 := n1_; have HB := n2_; clear n0_ n1_ n2_; (try clear hb); (try clear hb2); (try clear hk); (try clear hi)))
  go_ret
  exact ⟨by first | rfl | (simp [errW_none, errW_some] <;> rfl) | (simp [*, errW_none, errW_some] <;> rfl), by repeat (first | (with_reducible first | exact HB.out | apply below_alloc | apply pw_below_drewN | apply below_drew1 | refine below_set ?_ GE143.out | refine below_set ?_ GE144.out) | exact HB.out)⟩
 ·replace c4 := Bool.eq_false_iff.mpr c4
  subst c4
  have H1 : (some false) = some r := by rw [if_neg (show ¬ (false = true) by decide)] at H; exact H
  clear H
  have H := H1
  clear H1
  obtain rfl := Option.some.inj H
  go_enter Tryz.func13, Tryz.ntmps13
  go_wp2_with (first | ((with_reducible refine gate_dst (N := 2) rfl ?_); refine box_event ?hg (N := 2) ?hd (cs := #[.slice A0_0 l0_0.length c0_0, .bool a0_1]) (t := 30) ?hr ?_; (case hd => rfl); (case hg => rfl); (case hr => first | (go_simp; done) | (go_simp; rfl)); intro gb143 hg w15 hbox hb; have n0_ := Aside0.mk (below_step (by repeat (first | (with_reducible first | exact HB.out | apply below_alloc | apply pw_below_drewN | apply below_drew1) | exact HB.out)) hb); have n1_ := Aside0.mk (hbox); have n2_ := Aside0.mk ((by rw [hg]; exact (below_size (by repeat (first | (with_reducible first | exact HB.out | apply below_alloc | apply pw_below_drewN | apply below_drew1) | exact HB.out))) : w.heap.size ≤ gb143)); have n3_ := Aside0.mk ((by rw [hg]; exact (below_size (by repeat (first | (with_reducible first | exact HB.out | apply below_alloc | apply pw_below_drewN | apply below_drew1) | exact HB.out))) : w.heap.size ≤ gb143)); clear HB; have HB := n0_; have BK143 := n1_; have GW143 := n2_; have GE143 := n3_; clear n0_ n1_ n2_ n3_; clear hb hbox hg) | ((with_reducible refine gate_dst (N := 3) rfl ?_); refine box_event ?hg (N := 3) ?hd (cs := #[.int .i64 a1_0, .int .i64 a1_1, .int .i64 a1_2, .int .i64 a1_3, .int .i64 a1_4, .int .i64 a1_5]) (t := 26) ?hr ?_; (case hd => rfl); (case hg => rfl); (case hr => first | (go_simp; done) | (go_simp; rfl)); intro gb144 hg w16 hbox hb; have n0_ := Aside0.mk (blk_below (g := gb143) (o := .cells #[.slice A0_0 l0_0.length c0_0, .bool a0_1] 30 (0, 0)) (by (with_reducible repeat (first | refine blk_drewN ?_ _ | refine blk_drew ?_ | refine blk_alloc ?_ _)); exact BK143.out) hb); have n1_ := Aside0.mk (below_step (by repeat (first | (with_reducible first | exact HB.out | apply below_alloc | apply pw_below_drewN | apply below_drew1 | refine below_set ?_ GE143.out) | exact HB.out)) hb); have n2_ := Aside0.mk (hbox); have n3_ := Aside0.mk ((by rw [hg]; exact (below_size (by repeat (first | (with_reducible first | exact HB.out | apply below_alloc | apply pw_below_drewN | apply below_drew1 | refine below_set ?_ GE143.out) | exact HB.out))) : w.heap.size ≤ gb144)); have n4_ := Aside0.mk ((by rw [hg]; exact (below_size (by repeat (first | (with_reducible first | exact HB.out | apply below_alloc | apply pw_below_drewN | apply below_drew1 | refine below_set ?_ GE143.out) | exact HB.out))) : w.heap.size ≤ gb144)); have n5_ := Aside0.mk ((by rw [hg]; exact Nat.ne_of_lt (blk_lt (g := gb143) (o := .cells #[.slice A0_0 l0_0.length c0_0, .bool a0_1] 30 (0, 0)) (by (with_reducible repeat (first | refine blk_drewN ?_ _ | refine blk_drew ?_ | refine blk_alloc ?_ _)); exact BK143.out)) : gb143 ≠ gb144)); have n6_ := Aside0.mk ((by rw [hg]; exact Nat.ne_of_gt (blk_lt (g := gb143) (o := .cells #[.slice A0_0 l0_0.length c0_0, .bool a0_1] 30 (0, 0)) (by (with_reducible repeat (first | refine blk_drewN ?_ _ | refine blk_drew ?_ | refine blk_alloc ?_ _)); exact BK143.out)) : gb144 ≠ gb143)); clear BK143; clear HB; have BK143 := n0_; have HB := n1_; have BK144 := n2_; have GW144 := n3_; have GE144 := n4_; have NB143_144 := n5_; have NB144_143 := n6_; clear n0_ n1_ n2_ n3_ n4_ n5_ n6_; clear hb hbox hg; have hnb17 := NB143_144.out; have hnc17 := NB144_143.out; have hcz18_0 : w16.cell? ⟨gb143, 0, none⟩ = some (.slice A0_0 l0_0.length c0_0) := (blk_cell BK143.out 0).trans rfl; have hcz18_1 : w16.cell? ⟨gb143, 1, none⟩ = some (.bool a0_1) := (blk_cell BK143.out 1).trans rfl; have hfz18_0 := blk_frozen BK143.out 0; have hfz18_1 := blk_frozen BK143.out 1) | ((with_reducible refine gate_callee (f := 28) rfl ?_); refine goesL_ (some 6) rfl rfl Tryz.func28 (by kernel_rfl) rfl #[.agg #[.slice A0_0 l0_0.length c0_0, .bool a0_1]] rfl (by (try simp only [List.map_toArray, List.map_cons, List.map_nil]); first | done | rfl | (simp only [List.length_drop, List.length_take]; rfl)) ?_; (with_reducible refine (spec_ExprGood.calls k _ _ l0_0 a0_1 false _ ?side1 ?side2 A3.out).mono ?_); (case side1 => repeat (first | exact (Kd.C_below HR0_0.out HB.out) | (with_reducible refine Kd.C_alloc ?_ _) | (with_reducible refine Kd.C_drewN ?_ _) | (with_reducible refine Kd.C_drew ?_))); (case side2 => exact HC0_0.out); rintro e w19 ⟨rfl, hb⟩; refine ⟨_, rfl, ?_⟩; have n0_ := Aside0.mk (blk_below (g := gb143) (o := .cells #[.slice A0_0 l0_0.length c0_0, .bool a0_1] 30 (0, 0)) (by (with_reducible repeat (first | refine blk_drewN ?_ _ | refine blk_drew ?_ | refine blk_alloc ?_ _)); exact BK143.out) hb); have n1_ := Aside0.mk (blk_below (g := gb144) (o := .cells #[.int .i64 a1_0, .int .i64 a1_1, .int .i64 a1_2, .int .i64 a1_3, .int .i64 a1_4, .int .i64 a1_5] 26 (0, 0)) (by (with_reducible repeat (first | refine blk_drewN ?_ _ | refine blk_drew ?_ | refine blk_alloc ?_ _)); exact BK144.out) hb); have n2_ := Aside0.mk (below_step (by repeat (first | (with_reducible first | exact HB.out | apply below_alloc | apply pw_below_drewN | apply below_drew1 | refine below_set ?_ GE143.out | refine below_set ?_ GE144.out) | exact HB.out)) hb); clear BK143; clear BK144; clear HB; have BK143 := n0_; have BK144 := n1_; have HB := n2_; clear n0_ n1_ n2_; (try clear hb); (try clear hb2); (try clear hk); (try clear hi)))
  go_ret
  exact ⟨by first | rfl | (simp [errW_none, errW_some] <;> rfl) | (simp [*, errW_none, errW_some] <;> rfl), by repeat (first | (with_reducible first | exact HB.out | apply below_alloc | apply pw_below_drewN | apply below_drew1 | refine below_set ?_ GE143.out | refine below_set ?_ GE144.out) | exact HB.out)⟩
end Go.Proofs.YtemgofomhjabpaaGreatDoor.Core
namespace Go.Proofs.YtemgofomhjabpaaGreatDoor.Core
open Go.RowKit Go.Proofs.YtemgofomhjabpaaGreatDoorW.PrintWords Go.Proofs.YtemgofomhjabpaaGreatDoorW.PrintLast Go.Proofs.YtemgofomhjabpaaGreatDoorW.PrintMore
attribute [local go_sem] max2_int min2_int max_two min_two max_three min_three max_four min_four   -- for this text's walks alone
set_option linter.unusedVariables false
set_option linter.unusedSimpArgs false
def spec_Decimal.f : Nat → Int → Option (ByteArray)
 | 0, _ => none
 | k + 1, a0 => if a0 < 10 then (if 0 ≤ a0 then (if a0 ≤ (wrap64 (a0 + 1)) then (if (wrap64 (a0 + 1)) ≤ 10 then (some ((⟨#[48, 49, 50, 51, 52, 53, 54, 55, 56, 57]⟩ : ByteArray).extract (a0 : Int).toNat ((wrap64 (a0 + 1)) : Int).toNat)) else (none)) else (none)) else (none)) else ((spec_Decimal.f k (wrap64 (Int.tdiv a0 10))).bind fun t153 => ((spec_Decimal.f k (Int.tmod a0 10)).bind fun t154 => (if t153.size + t154.size ≤ 9223372036854775807 then (some (t153 ++ t154)) else (none))))
set_option maxHeartbeats 8000000 in
set_option maxRecDepth 100000 in
theorem spec_Decimal.calls (k : Nat) : ∀ (a0 : Int) (r : ByteArray) (w : World) (h : spec_Decimal.f k a0 = some r),
  Calls Tryz.prog 24 #[.int .i64 a0] w fun e w' => e = .returned (.string r) ∧ Drawn0 w w' := by
 induction k using Nat.strongRecOn with
 | _ k ih =>
 intro a0 r w h
 cases k with
 | zero => exact absurd h (by simp [spec_Decimal.f])
 | succ k =>
 simp only [spec_Decimal.f] at h
 have H : (if a0 < 10 then (if 0 ≤ a0 then (if a0 ≤ (wrap64 (a0 + 1)) then (if (wrap64 (a0 + 1)) ≤ 10 then (some ((⟨#[48, 49, 50, 51, 52, 53, 54, 55, 56, 57]⟩ : ByteArray).extract (a0 : Int).toNat ((wrap64 (a0 + 1)) : Int).toNat)) else (none)) else (none)) else (none)) else ((spec_Decimal.f k (wrap64 (Int.tdiv a0 10))).bind fun t153 => ((spec_Decimal.f k (Int.tmod a0 10)).bind fun t154 => (if t153.size + t154.size ≤ 9223372036854775807 then (some (t153 ++ t154)) else (none))))) = some r := h
 clear h
 by_cases c2 : a0 < 10
 ·rw [if_pos c2] at H
  have c2b0 : decide (a0 < 10) = true := decide_eq_true c2
  clear c2
  by_cases c3 : 0 ≤ a0
  ·rw [if_pos c3] at H
   have c3b0 := eq_true c3
   have c3b1 : decide (0 ≤ a0) = true := decide_eq_true c3
   clear c3
   by_cases c4 : a0 ≤ (wrap64 (a0 + 1))
   ·rw [if_pos c4] at H
    have c4b0 := eq_true c4
    have c4b1 : decide (a0 ≤ (wrap64 (a0 + 1))) = true := decide_eq_true c4
    by_cases c5 : (wrap64 (a0 + 1)) ≤ 10
    ·rw [if_pos c5] at H
     have c5b0 := eq_true c5
     have c5b1 : decide ((wrap64 (a0 + 1)) ≤ 10) = true := decide_eq_true c5
     obtain rfl := Option.some.inj H
     go_enter Tryz.func24, Tryz.ntmps24
     go_wp2
     go_ret
     exact ⟨by first | rfl | (simp; done) | (simp [*]; done), by repeat (first | exact Drawn0.refl _ | apply Drawn0.step)⟩
    ·rw [if_neg c5] at H
     exact absurd H (by simp)
   ·rw [if_neg c4] at H
    exact absurd H (by simp)
  ·rw [if_neg c3] at H
   exact absurd H (by simp)
 ·rw [if_neg c2] at H
  have c2b0 : decide (a0 < 10) = false := decide_eq_false c2
  clear c2
  replace H := Option.bind_eq_some_iff.mp H
  obtain ⟨t153, A60, H⟩ := H
  replace H : ((spec_Decimal.f k (Int.tmod a0 10)).bind fun t154 => (if t153.size + t154.size ≤ 9223372036854775807 then (some (t153 ++ t154)) else (none))) = some r := H
  have A6 := Aside0.mk A60
  clear A60
  replace H := Option.bind_eq_some_iff.mp H
  obtain ⟨t154, A70, H⟩ := H
  replace H : (if t153.size + t154.size ≤ 9223372036854775807 then (some (t153 ++ t154)) else (none)) = some r := H
  have A7 := Aside0.mk A70
  clear A70
  by_cases c8 : t153.size + t154.size ≤ 9223372036854775807
  ·rw [if_pos c8] at H
   have c8b0 := eq_true c8
   have c8b1 : decide (t153.size + t154.size ≤ 9223372036854775807) = true := decide_eq_true c8
   try have c8b2 : (9223372036854775807 < t153.size + t154.size) = False := eq_false (Nat.not_lt.2 c8)
   obtain rfl := Option.some.inj H
   go_enter Tryz.func24, Tryz.ntmps24
   go_wp2_with (first | ((with_reducible refine gate_callee (f := 24) rfl ?_); refine goesL_ (some 11) rfl rfl Tryz.func24 (by kernel_rfl) rfl #[.int .i64 (wrap64 (Int.tdiv a0 10))] rfl (by (try simp only [List.map_toArray, List.map_cons, List.map_nil]); first | done | rfl | (simp only [List.length_drop, List.length_take]; rfl)) ?_; (with_reducible refine (ih k (by omega) (wrap64 (Int.tdiv a0 10)) t153 _ A6.out).mono ?_); rintro e w' ⟨rfl, ⟨nd, rfl⟩⟩; refine ⟨_, rfl, ?_⟩) | ((with_reducible refine gate_callee (f := 24) rfl ?_); refine goesL_ (some 14) rfl rfl Tryz.func24 (by kernel_rfl) rfl #[.int .i64 (Int.tmod a0 10)] rfl (by (try simp only [List.map_toArray, List.map_cons, List.map_nil]); first | done | rfl | (simp only [List.length_drop, List.length_take]; rfl)) ?_; (with_reducible refine (ih k (by omega) (Int.tmod a0 10) t154 _ A7.out).mono ?_); rintro e w' ⟨rfl, ⟨nd, rfl⟩⟩; refine ⟨_, rfl, ?_⟩))
   go_ret
   exact ⟨by first | rfl | (simp; done) | (simp [*]; done), by repeat (first | exact Drawn0.refl _ | apply Drawn0.step)⟩
  ·rw [if_neg c8] at H
   exact absurd H (by simp)
end Go.Proofs.YtemgofomhjabpaaGreatDoor.Core
namespace Go.Proofs.YtemgofomhjabpaaGreatDoor.Core
open Go.RowKit Go.Proofs.YtemgofomhjabpaaGreatDoorW.PrintWords Go.Proofs.YtemgofomhjabpaaGreatDoorW.PrintLast Go.Proofs.YtemgofomhjabpaaGreatDoorW.PrintMore
attribute [local go_sem] max2_int min2_int max_two min_two max_three min_three max_four min_four   -- for this text's walks alone
set_option linter.unusedVariables false
set_option linter.unusedSimpArgs false
def spec_Has.l0 : Nat → Int → Int → List (S38) → Int → Int → Option (Bool)
 | 0, _, _, _, _, _ => none
 | k + 1, x0, x2, x11, x12, x13 => if x13 < x12 then (if 0 ≤ x13 then (if x13 < (x11.length : Int) then (if (rd_T38 x11 x13).f0 = true then ((spec_Low.f x0).bind fun t167 => ((spec_High.f x0).bind fun t168 => (if x2 ≥ t167 then (if x2 ≤ t168 then (if ((rd_T38 x11 x13).f3) = 0 then (none) else (if (Int.tmod (wrap64 (x2 - t167)) ((rd_T38 x11 x13).f3)) = 0 then (some true) else (spec_Has.l0 k x0 x2 x11 x12 (wrap64 (x13 + 1))))) else (spec_Has.l0 k x0 x2 x11 x12 (wrap64 (x13 + 1)))) else (spec_Has.l0 k x0 x2 x11 x12 (wrap64 (x13 + 1)))))) else (if x2 ≥ ((rd_T38 x11 x13).f1) then (if x2 ≤ ((rd_T38 x11 x13).f2) then (if ((rd_T38 x11 x13).f3) = 0 then (none) else (if (Int.tmod (wrap64 (x2 - ((rd_T38 x11 x13).f1))) ((rd_T38 x11 x13).f3)) = 0 then (some true) else (spec_Has.l0 k x0 x2 x11 x12 (wrap64 (x13 + 1))))) else (spec_Has.l0 k x0 x2 x11 x12 (wrap64 (x13 + 1)))) else (spec_Has.l0 k x0 x2 x11 x12 (wrap64 (x13 + 1))))) else (none)) else (none)) else (some false)
def spec_Has.f (k : Nat) (a0 : Int) (l1 : List (S38)) (a2 : Int) : Option (Bool) := spec_Has.l0 k a0 a2 l1 (l1.length : Int) 0
set_option maxHeartbeats 8000000 in
set_option maxRecDepth 100000 in
theorem spec_Has.calls (k : Nat) (a0 : Int) (A1 : Option Addr) (c1 : Nat) (l1 : List (S38)) (a2 : Int) (r : Bool) (w : World) (hr1 : Kd.C k38 w A1 l1.length l1) (hc1 : l1.length ≤ c1) (h : spec_Has.f k a0 l1 a2 = some r) :
  Calls Tryz.prog 36 #[.int .i64 a0, .slice A1 l1.length c1, .int .i64 a2] w fun e w' => e = .returned (.bool r) ∧ Below w.heap.size w w' := by
 have hu38 := Tryz.underlying38
 have HR1 := Aside0.mk hr1
 have HC1 := Aside0.mk hc1
 clear hr1 hc1
 have HB := Aside0.mk (Below.refl w.heap.size w)
 have H : (spec_Has.l0 k a0 a2 l1 (l1.length : Int) 0) = some r := h
 clear h
 have H' := Aside0.mk H
 clear H
 go_enter Tryz.func36, Tryz.ntmps36
 go_wp2
 repeat (go_quiet (fail); try go_wp2)
 go_loopg [13] k (fun kq v13 w' => ∃ (x13_1 : Int), v13 = .int .i64 x13_1 ∧ Aside0 (spec_Has.l0 kq a0 a2 l1 (l1.length : Int) x13_1 = some r) ∧ Aside0 (kq ≤ k) ∧ Aside0 (Below w.heap.size w w'))
 case atStart => exact ⟨(0), (by first | rfl | (simp; done) | (simp [*]; done)), H', ⟨Nat.le_refl _⟩, ⟨by repeat (first | (with_reducible first | exact HB.out | apply below_alloc | apply pw_below_drewN | apply below_drew1) | exact HB.out)⟩⟩
 case round =>
  clear H'
  try clear c1
  try clear p2
  try clear c3
  obtain ⟨x13_1, rfl, HA, HK1, HB⟩ := hrel
  cases gk with
  | zero => exact absurd HA.out (by simp [spec_Has.l0])
  | succ k1 =>
   have H := HA.out
   clear HA
   simp only [spec_Has.l0] at H
   by_cases c4 : x13_1 < (l1.length : Int)
   ·rw [if_pos c4] at H
    have c4b0 : decide (x13_1 < (l1.length : Int)) = true := decide_eq_true c4
    clear c4
    by_cases c5 : 0 ≤ x13_1
    ·rw [if_pos c5] at H
     have c5b0 : decide (0 ≤ x13_1) = true := decide_eq_true c5
     clear c5
     by_cases c6 : x13_1 < (l1.length : Int)
     ·rw [if_pos c6] at H
      have c6b0 : decide (x13_1 < (l1.length : Int)) = true := decide_eq_true c6
      clear c6
      obtain ⟨bq7, hbq7⟩ : ∃ b_ : Bool, b_ = ((rd_T38 l1 x13_1).f0) := ⟨_, rfl⟩
      replace H : (if bq7 = true then ((spec_Low.f a0).bind fun t167 => ((spec_High.f a0).bind fun t168 => (if a2 ≥ t167 then (if a2 ≤ t168 then (if ((rd_T38 l1 x13_1).f3) = 0 then (none) else (if (Int.tmod (wrap64 (a2 - t167)) ((rd_T38 l1 x13_1).f3)) = 0 then (some true) else (spec_Has.l0 k1 a0 a2 l1 (l1.length : Int) (wrap64 (x13_1 + 1))))) else (spec_Has.l0 k1 a0 a2 l1 (l1.length : Int) (wrap64 (x13_1 + 1)))) else (spec_Has.l0 k1 a0 a2 l1 (l1.length : Int) (wrap64 (x13_1 + 1)))))) else (if a2 ≥ ((rd_T38 l1 x13_1).f1) then (if a2 ≤ ((rd_T38 l1 x13_1).f2) then (if ((rd_T38 l1 x13_1).f3) = 0 then (none) else (if (Int.tmod (wrap64 (a2 - ((rd_T38 l1 x13_1).f1))) ((rd_T38 l1 x13_1).f3)) = 0 then (some true) else (spec_Has.l0 k1 a0 a2 l1 (l1.length : Int) (wrap64 (x13_1 + 1))))) else (spec_Has.l0 k1 a0 a2 l1 (l1.length : Int) (wrap64 (x13_1 + 1)))) else (spec_Has.l0 k1 a0 a2 l1 (l1.length : Int) (wrap64 (x13_1 + 1))))) = some r := by rw [← hbq7] at H; exact H
      have Nbq7 := Aside0.mk hbq7
      clear hbq7
      by_cases c8 : bq7 = true
      ·subst c8
       have H1 : ((spec_Low.f a0).bind fun t167 => ((spec_High.f a0).bind fun t168 => (if a2 ≥ t167 then (if a2 ≤ t168 then (if ((rd_T38 l1 x13_1).f3) = 0 then (none) else (if (Int.tmod (wrap64 (a2 - t167)) ((rd_T38 l1 x13_1).f3)) = 0 then (some true) else (spec_Has.l0 k1 a0 a2 l1 (l1.length : Int) (wrap64 (x13_1 + 1))))) else (spec_Has.l0 k1 a0 a2 l1 (l1.length : Int) (wrap64 (x13_1 + 1)))) else (spec_Has.l0 k1 a0 a2 l1 (l1.length : Int) (wrap64 (x13_1 + 1)))))) = some r := by rw [if_pos rfl] at H; exact H
       clear H
       have H := H1
       clear H1
       replace H := Option.bind_eq_some_iff.mp H
       obtain ⟨t167, A90, H⟩ := H
       replace H : ((spec_High.f a0).bind fun t168 => (if a2 ≥ t167 then (if a2 ≤ t168 then (if ((rd_T38 l1 x13_1).f3) = 0 then (none) else (if (Int.tmod (wrap64 (a2 - t167)) ((rd_T38 l1 x13_1).f3)) = 0 then (some true) else (spec_Has.l0 k1 a0 a2 l1 (l1.length : Int) (wrap64 (x13_1 + 1))))) else (spec_Has.l0 k1 a0 a2 l1 (l1.length : Int) (wrap64 (x13_1 + 1)))) else (spec_Has.l0 k1 a0 a2 l1 (l1.length : Int) (wrap64 (x13_1 + 1))))) = some r := H
       have A9 := Aside0.mk A90
       clear A90
       replace H := Option.bind_eq_some_iff.mp H
       obtain ⟨t168, A100, H⟩ := H
       replace H : (if a2 ≥ t167 then (if a2 ≤ t168 then (if ((rd_T38 l1 x13_1).f3) = 0 then (none) else (if (Int.tmod (wrap64 (a2 - t167)) ((rd_T38 l1 x13_1).f3)) = 0 then (some true) else (spec_Has.l0 k1 a0 a2 l1 (l1.length : Int) (wrap64 (x13_1 + 1))))) else (spec_Has.l0 k1 a0 a2 l1 (l1.length : Int) (wrap64 (x13_1 + 1)))) else (spec_Has.l0 k1 a0 a2 l1 (l1.length : Int) (wrap64 (x13_1 + 1)))) = some r := H
       have A10 := Aside0.mk A100
       clear A100
       by_cases c11 : a2 ≥ t167
       ·rw [if_pos c11] at H
        have c11b0 : decide (t167 ≤ a2) = true := decide_eq_true c11
        clear c11
        by_cases c12 : a2 ≤ t168
        ·rw [if_pos c12] at H
         have c12b0 : decide (a2 ≤ t168) = true := decide_eq_true c12
         clear c12
         by_cases c13 : ((rd_T38 l1 x13_1).f3) = 0
         ·rw [if_pos c13] at H
          exact absurd H (by simp)
         ·rw [if_neg c13] at H
          have c13b0 : (((rd_T38 l1 x13_1).f3) == 0) = false := beq_eq_false_iff_ne.mpr c13
          have c13b1 : (((rd_T38 l1 x13_1).f3) != 0) = true := bne_iff_ne.mpr c13
          by_cases c14 : (Int.tmod (wrap64 (a2 - t167)) ((rd_T38 l1 x13_1).f3)) = 0
          ·rw [if_pos c14] at H
           have c14b0 : ((Int.tmod (wrap64 (a2 - t167)) ((rd_T38 l1 x13_1).f3)) == 0) = true := beq_iff_eq.mpr c14
           have c14b1 : ((Int.tmod (wrap64 (a2 - t167)) ((rd_T38 l1 x13_1).f3)) != 0) = false := bne_eq_false_iff_eq.mpr c14
           clear c14
           obtain rfl := Option.some.inj H
           have p165 : 0 ≤ (x13_1 : Int) := of_decide_eq_true (by first | (with_reducible assumption) | assumption)
           have q165 : x13_1 < (l1.length : Int) := of_decide_eq_true (by first | (with_reducible assumption) | assumption)
           obtain ⟨ad165, e165, hx165_0, hx165_1, hx165_2, hx165_3⟩ := at_T38 HR1.out x13_1 p165 q165
           (try rw [← Nbq7.out] at hx165_0)
           cases e165
           replace hx165_0 := (HB.out.cell (World.block_lt_of_cell? w _ hx165_0)).trans hx165_0
           replace hx165_1 := (HB.out.cell (World.block_lt_of_cell? w _ hx165_1)).trans hx165_1
           replace hx165_2 := (HB.out.cell (World.block_lt_of_cell? w _ hx165_2)).trans hx165_2
           replace hx165_3 := (HB.out.cell (World.block_lt_of_cell? w _ hx165_3)).trans hx165_3
           replace p165 := eq_true p165
           replace q165 := eq_true q165
           go_wp2_with (first | ((with_reducible refine gate_dst (N := 8) rfl ?_); refine box_event ?hg (N := 8) ?hd (cs := #[.bool false, .int .i64 0, .int .i64 0, .int .i64 0]) (t := 38) ?hr ?_; (case hd => rfl); (case hg => rfl); (case hr => first | (go_simp; done) | (go_simp; rfl)); intro gb166 hg w15 hbox hb; have n0_ := Aside0.mk (below_step (by repeat (first | (with_reducible first | exact HB.out | apply below_alloc | apply pw_below_drewN | apply below_drew1) | exact HB.out)) hb); have n1_ := Aside0.mk (hbox); have n2_ := Aside0.mk ((by rw [hg]; exact (below_size (by repeat (first | (with_reducible first | exact HB.out | apply below_alloc | apply pw_below_drewN | apply below_drew1) | exact HB.out))) : w.heap.size ≤ gb166)); have n3_ := Aside0.mk ((by rw [hg]; exact (below_size (by repeat (first | (with_reducible first | exact HB.out | apply below_alloc | apply pw_below_drewN | apply below_drew1) | exact HB.out))) : w.heap.size ≤ gb166)); clear HB; have HB := n0_; have BK166 := n1_; have GW166 := n2_; have GE166 := n3_; clear n0_ n1_ n2_ n3_; clear hb hbox hg; have hcz16_0 : w15.cell? ⟨gb166, 0, none⟩ = some (.bool false) := (blk_cell BK166.out 0).trans rfl; have hcz16_1 : w15.cell? ⟨gb166, 1, none⟩ = some (.int .i64 0) := (blk_cell BK166.out 1).trans rfl; have hcz16_2 : w15.cell? ⟨gb166, 2, none⟩ = some (.int .i64 0) := (blk_cell BK166.out 2).trans rfl; have hcz16_3 : w15.cell? ⟨gb166, 3, none⟩ = some (.int .i64 0) := (blk_cell BK166.out 3).trans rfl; have hfz16_0 := blk_frozen BK166.out 0; have hfz16_1 := blk_frozen BK166.out 1; have hfz16_2 := blk_frozen BK166.out 2; have hfz16_3 := blk_frozen BK166.out 3) | (go_at_call 20; (with_reducible refine (spec_Low.calls a0 t167 _ A9.out).mono ?_); rintro e w' ⟨rfl, ⟨nd, rfl⟩⟩; (try first | exact ⟨rfl, _, World.drewN_drewN _ _ _⟩ | exact ⟨rfl, _, Eq.trans (World.drewN_drewN _ _ _) (congrArg (World.drewN _) (Nat.add_assoc _ _ _))⟩)) | (go_at_call 21; (with_reducible refine (spec_High.calls a0 t168 _ A10.out).mono ?_); rintro e w' ⟨rfl, ⟨nd, rfl⟩⟩; (try first | exact ⟨rfl, _, World.drewN_drewN _ _ _⟩ | exact ⟨rfl, _, Eq.trans (World.drewN_drewN _ _ _) (congrArg (World.drewN _) (Nat.add_assoc _ _ _))⟩)))
           repeat (go_quiet (first | ((with_reducible refine gate_dst (N := 8) rfl ?_); refine box_event ?hg (N := 8) ?hd (cs := #[.bool false, .int .i64 0, .int .i64 0, .int .i64 0]) (t := 38) ?hr ?_; (case hd => rfl); (case hg => rfl); (case hr => first | (go_simp; done) | (go_simp; rfl)); intro gb166 hg w15 hbox hb; have n0_ := Aside0.mk (below_step (by repeat (first | (with_reducible first | exact HB.out | apply below_alloc | apply pw_below_drewN | apply below_drew1) | exact HB.out)) hb); have n1_ := Aside0.mk (hbox); have n2_ := Aside0.mk ((by rw [hg]; exact (below_size (by repeat (first | (with_reducible first | exact HB.out | apply below_alloc | apply pw_below_drewN | apply below_drew1) | exact HB.out))) : w.heap.size ≤ gb166)); have n3_ := Aside0.mk ((by rw [hg]; exact (below_size (by repeat (first | (with_reducible first | exact HB.out | apply below_alloc | apply pw_below_drewN | apply below_drew1) | exact HB.out))) : w.heap.size ≤ gb166)); clear HB; have HB := n0_; have BK166 := n1_; have GW166 := n2_; have GE166 := n3_; clear n0_ n1_ n2_ n3_; clear hb hbox hg; have hcz16_0 : w15.cell? ⟨gb166, 0, none⟩ = some (.bool false) := (blk_cell BK166.out 0).trans rfl; have hcz16_1 : w15.cell? ⟨gb166, 1, none⟩ = some (.int .i64 0) := (blk_cell BK166.out 1).trans rfl; have hcz16_2 : w15.cell? ⟨gb166, 2, none⟩ = some (.int .i64 0) := (blk_cell BK166.out 2).trans rfl; have hcz16_3 : w15.cell? ⟨gb166, 3, none⟩ = some (.int .i64 0) := (blk_cell BK166.out 3).trans rfl; have hfz16_0 := blk_frozen BK166.out 0; have hfz16_1 := blk_frozen BK166.out 1; have hfz16_2 := blk_frozen BK166.out 2; have hfz16_3 := blk_frozen BK166.out 3) | (go_at_call 20; (with_reducible refine (spec_Low.calls a0 t167 _ A9.out).mono ?_); rintro e w' ⟨rfl, ⟨nd, rfl⟩⟩; (try first | exact ⟨rfl, _, World.drewN_drewN _ _ _⟩ | exact ⟨rfl, _, Eq.trans (World.drewN_drewN _ _ _) (congrArg (World.drewN _) (Nat.add_assoc _ _ _))⟩)) | (go_at_call 21; (with_reducible refine (spec_High.calls a0 t168 _ A10.out).mono ?_); rintro e w' ⟨rfl, ⟨nd, rfl⟩⟩; (try first | exact ⟨rfl, _, World.drewN_drewN _ _ _⟩ | exact ⟨rfl, _, Eq.trans (World.drewN_drewN _ _ _) (congrArg (World.drewN _) (Nat.add_assoc _ _ _))⟩))); try go_wp2_with (first | ((with_reducible refine gate_dst (N := 8) rfl ?_); refine box_event ?hg (N := 8) ?hd (cs := #[.bool false, .int .i64 0, .int .i64 0, .int .i64 0]) (t := 38) ?hr ?_; (case hd => rfl); (case hg => rfl); (case hr => first | (go_simp; done) | (go_simp; rfl)); intro gb166 hg w15 hbox hb; have n0_ := Aside0.mk (below_step (by repeat (first | (with_reducible first | exact HB.out | apply below_alloc | apply pw_below_drewN | apply below_drew1) | exact HB.out)) hb); have n1_ := Aside0.mk (hbox); have n2_ := Aside0.mk ((by rw [hg]; exact (below_size (by repeat (first | (with_reducible first | exact HB.out | apply below_alloc | apply pw_below_drewN | apply below_drew1) | exact HB.out))) : w.heap.size ≤ gb166)); have n3_ := Aside0.mk ((by rw [hg]; exact (below_size (by repeat (first | (with_reducible first | exact HB.out | apply below_alloc | apply pw_below_drewN | apply below_drew1) | exact HB.out))) : w.heap.size ≤ gb166)); clear HB; have HB := n0_; have BK166 := n1_; have GW166 := n2_; have GE166 := n3_; clear n0_ n1_ n2_ n3_; clear hb hbox hg; have hcz16_0 : w15.cell? ⟨gb166, 0, none⟩ = some (.bool false) := (blk_cell BK166.out 0).trans rfl; have hcz16_1 : w15.cell? ⟨gb166, 1, none⟩ = some (.int .i64 0) := (blk_cell BK166.out 1).trans rfl; have hcz16_2 : w15.cell? ⟨gb166, 2, none⟩ = some (.int .i64 0) := (blk_cell BK166.out 2).trans rfl; have hcz16_3 : w15.cell? ⟨gb166, 3, none⟩ = some (.int .i64 0) := (blk_cell BK166.out 3).trans rfl; have hfz16_0 := blk_frozen BK166.out 0; have hfz16_1 := blk_frozen BK166.out 1; have hfz16_2 := blk_frozen BK166.out 2; have hfz16_3 := blk_frozen BK166.out 3) | (go_at_call 20; (with_reducible refine (spec_Low.calls a0 t167 _ A9.out).mono ?_); rintro e w' ⟨rfl, ⟨nd, rfl⟩⟩; (try first | exact ⟨rfl, _, World.drewN_drewN _ _ _⟩ | exact ⟨rfl, _, Eq.trans (World.drewN_drewN _ _ _) (congrArg (World.drewN _) (Nat.add_assoc _ _ _))⟩)) | (go_at_call 21; (with_reducible refine (spec_High.calls a0 t168 _ A10.out).mono ?_); rintro e w' ⟨rfl, ⟨nd, rfl⟩⟩; (try first | exact ⟨rfl, _, World.drewN_drewN _ _ _⟩ | exact ⟨rfl, _, Eq.trans (World.drewN_drewN _ _ _) (congrArg (World.drewN _) (Nat.add_assoc _ _ _))⟩))))
           go_ret
           exact ⟨by first | rfl | (simp [errW_none, errW_some] <;> rfl) | (simp [*, errW_none, errW_some] <;> rfl), by repeat (first | (with_reducible first | exact HB.out | apply below_alloc | apply pw_below_drewN | apply below_drew1 | refine below_set ?_ GE166.out) | exact HB.out)⟩
          ·rw [if_neg c14] at H
           have c14b0 : ((Int.tmod (wrap64 (a2 - t167)) ((rd_T38 l1 x13_1).f3)) == 0) = false := beq_eq_false_iff_ne.mpr c14
           have c14b1 : ((Int.tmod (wrap64 (a2 - t167)) ((rd_T38 l1 x13_1).f3)) != 0) = true := bne_iff_ne.mpr c14
           have H' := Aside0.mk H
           clear H
           have p165 : 0 ≤ (x13_1 : Int) := of_decide_eq_true (by first | (with_reducible assumption) | assumption)
           have q165 : x13_1 < (l1.length : Int) := of_decide_eq_true (by first | (with_reducible assumption) | assumption)
           obtain ⟨ad165, e165, hx165_0, hx165_1, hx165_2, hx165_3⟩ := at_T38 HR1.out x13_1 p165 q165
           (try rw [← Nbq7.out] at hx165_0)
           cases e165
           replace hx165_0 := (HB.out.cell (World.block_lt_of_cell? w _ hx165_0)).trans hx165_0
           replace hx165_1 := (HB.out.cell (World.block_lt_of_cell? w _ hx165_1)).trans hx165_1
           replace hx165_2 := (HB.out.cell (World.block_lt_of_cell? w _ hx165_2)).trans hx165_2
           replace hx165_3 := (HB.out.cell (World.block_lt_of_cell? w _ hx165_3)).trans hx165_3
           replace p165 := eq_true p165
           replace q165 := eq_true q165
           go_wp2_with (first | ((with_reducible refine gate_dst (N := 8) rfl ?_); refine box_event ?hg (N := 8) ?hd (cs := #[.bool false, .int .i64 0, .int .i64 0, .int .i64 0]) (t := 38) ?hr ?_; (case hd => rfl); (case hg => rfl); (case hr => first | (go_simp; done) | (go_simp; rfl)); intro gb166 hg w17 hbox hb; have n0_ := Aside0.mk (below_step (by repeat (first | (with_reducible first | exact HB.out | apply below_alloc | apply pw_below_drewN | apply below_drew1) | exact HB.out)) hb); have n1_ := Aside0.mk (hbox); have n2_ := Aside0.mk ((by rw [hg]; exact (below_size (by repeat (first | (with_reducible first | exact HB.out | apply below_alloc | apply pw_below_drewN | apply below_drew1) | exact HB.out))) : w.heap.size ≤ gb166)); have n3_ := Aside0.mk ((by rw [hg]; exact (below_size (by repeat (first | (with_reducible first | exact HB.out | apply below_alloc | apply pw_below_drewN | apply below_drew1) | exact HB.out))) : w.heap.size ≤ gb166)); clear HB; have HB := n0_; have BK166 := n1_; have GW166 := n2_; have GE166 := n3_; clear n0_ n1_ n2_ n3_; clear hb hbox hg; have hcz18_0 : w17.cell? ⟨gb166, 0, none⟩ = some (.bool false) := (blk_cell BK166.out 0).trans rfl; have hcz18_1 : w17.cell? ⟨gb166, 1, none⟩ = some (.int .i64 0) := (blk_cell BK166.out 1).trans rfl; have hcz18_2 : w17.cell? ⟨gb166, 2, none⟩ = some (.int .i64 0) := (blk_cell BK166.out 2).trans rfl; have hcz18_3 : w17.cell? ⟨gb166, 3, none⟩ = some (.int .i64 0) := (blk_cell BK166.out 3).trans rfl; have hfz18_0 := blk_frozen BK166.out 0; have hfz18_1 := blk_frozen BK166.out 1; have hfz18_2 := blk_frozen BK166.out 2; have hfz18_3 := blk_frozen BK166.out 3) | (go_at_call 20; (with_reducible refine (spec_Low.calls a0 t167 _ A9.out).mono ?_); rintro e w' ⟨rfl, ⟨nd, rfl⟩⟩; (try first | exact ⟨rfl, _, World.drewN_drewN _ _ _⟩ | exact ⟨rfl, _, Eq.trans (World.drewN_drewN _ _ _) (congrArg (World.drewN _) (Nat.add_assoc _ _ _))⟩)) | (go_at_call 21; (with_reducible refine (spec_High.calls a0 t168 _ A10.out).mono ?_); rintro e w' ⟨rfl, ⟨nd, rfl⟩⟩; (try first | exact ⟨rfl, _, World.drewN_drewN _ _ _⟩ | exact ⟨rfl, _, Eq.trans (World.drewN_drewN _ _ _) (congrArg (World.drewN _) (Nat.add_assoc _ _ _))⟩)))
           repeat (go_quiet (first | ((with_reducible refine gate_dst (N := 8) rfl ?_); refine box_event ?hg (N := 8) ?hd (cs := #[.bool false, .int .i64 0, .int .i64 0, .int .i64 0]) (t := 38) ?hr ?_; (case hd => rfl); (case hg => rfl); (case hr => first | (go_simp; done) | (go_simp; rfl)); intro gb166 hg w17 hbox hb; have n0_ := Aside0.mk (below_step (by repeat (first | (with_reducible first | exact HB.out | apply below_alloc | apply pw_below_drewN | apply below_drew1) | exact HB.out)) hb); have n1_ := Aside0.mk (hbox); have n2_ := Aside0.mk ((by rw [hg]; exact (below_size (by repeat (first | (with_reducible first | exact HB.out | apply below_alloc | apply pw_below_drewN | apply below_drew1) | exact HB.out))) : w.heap.size ≤ gb166)); have n3_ := Aside0.mk ((by rw [hg]; exact (below_size (by repeat (first | (with_reducible first | exact HB.out | apply below_alloc | apply pw_below_drewN | apply below_drew1) | exact HB.out))) : w.heap.size ≤ gb166)); clear HB; have HB := n0_; have BK166 := n1_; have GW166 := n2_; have GE166 := n3_; clear n0_ n1_ n2_ n3_; clear hb hbox hg; have hcz18_0 : w17.cell? ⟨gb166, 0, none⟩ = some (.bool false) := (blk_cell BK166.out 0).trans rfl; have hcz18_1 : w17.cell? ⟨gb166, 1, none⟩ = some (.int .i64 0) := (blk_cell BK166.out 1).trans rfl; have hcz18_2 : w17.cell? ⟨gb166, 2, none⟩ = some (.int .i64 0) := (blk_cell BK166.out 2).trans rfl; have hcz18_3 : w17.cell? ⟨gb166, 3, none⟩ = some (.int .i64 0) := (blk_cell BK166.out 3).trans rfl; have hfz18_0 := blk_frozen BK166.out 0; have hfz18_1 := blk_frozen BK166.out 1; have hfz18_2 := blk_frozen BK166.out 2; have hfz18_3 := blk_frozen BK166.out 3) | (go_at_call 20; (with_reducible refine (spec_Low.calls a0 t167 _ A9.out).mono ?_); rintro e w' ⟨rfl, ⟨nd, rfl⟩⟩; (try first | exact ⟨rfl, _, World.drewN_drewN _ _ _⟩ | exact ⟨rfl, _, Eq.trans (World.drewN_drewN _ _ _) (congrArg (World.drewN _) (Nat.add_assoc _ _ _))⟩)) | (go_at_call 21; (with_reducible refine (spec_High.calls a0 t168 _ A10.out).mono ?_); rintro e w' ⟨rfl, ⟨nd, rfl⟩⟩; (try first | exact ⟨rfl, _, World.drewN_drewN _ _ _⟩ | exact ⟨rfl, _, Eq.trans (World.drewN_drewN _ _ _) (congrArg (World.drewN _) (Nat.add_assoc _ _ _))⟩))); try go_wp2_with (first | ((with_reducible refine gate_dst (N := 8) rfl ?_); refine box_event ?hg (N := 8) ?hd (cs := #[.bool false, .int .i64 0, .int .i64 0, .int .i64 0]) (t := 38) ?hr ?_; (case hd => rfl); (case hg => rfl); (case hr => first | (go_simp; done) | (go_simp; rfl)); intro gb166 hg w17 hbox hb; have n0_ := Aside0.mk (below_step (by repeat (first | (with_reducible first | exact HB.out | apply below_alloc | apply pw_below_drewN | apply below_drew1) | exact HB.out)) hb); have n1_ := Aside0.mk (hbox); have n2_ := Aside0.mk ((by rw [hg]; exact (below_size (by repeat (first | (with_reducible first | exact HB.out | apply below_alloc | apply pw_below_drewN | apply below_drew1) | exact HB.out))) : w.heap.size ≤ gb166)); have n3_ := Aside0.mk ((by rw [hg]; exact (below_size (by repeat (first | (with_reducible first | exact HB.out | apply below_alloc | apply pw_below_drewN | apply below_drew1) | exact HB.out))) : w.heap.size ≤ gb166)); clear HB; have HB := n0_; have BK166 := n1_; have GW166 := n2_; have GE166 := n3_; clear n0_ n1_ n2_ n3_; clear hb hbox hg; have hcz18_0 : w17.cell? ⟨gb166, 0, none⟩ = some (.bool false) := (blk_cell BK166.out 0).trans rfl; have hcz18_1 : w17.cell? ⟨gb166, 1, none⟩ = some (.int .i64 0) := (blk_cell BK166.out 1).trans rfl; have hcz18_2 : w17.cell? ⟨gb166, 2, none⟩ = some (.int .i64 0) := (blk_cell BK166.out 2).trans rfl; have hcz18_3 : w17.cell? ⟨gb166, 3, none⟩ = some (.int .i64 0) := (blk_cell BK166.out 3).trans rfl; have hfz18_0 := blk_frozen BK166.out 0; have hfz18_1 := blk_frozen BK166.out 1; have hfz18_2 := blk_frozen BK166.out 2; have hfz18_3 := blk_frozen BK166.out 3) | (go_at_call 20; (with_reducible refine (spec_Low.calls a0 t167 _ A9.out).mono ?_); rintro e w' ⟨rfl, ⟨nd, rfl⟩⟩; (try first | exact ⟨rfl, _, World.drewN_drewN _ _ _⟩ | exact ⟨rfl, _, Eq.trans (World.drewN_drewN _ _ _) (congrArg (World.drewN _) (Nat.add_assoc _ _ _))⟩)) | (go_at_call 21; (with_reducible refine (spec_High.calls a0 t168 _ A10.out).mono ?_); rintro e w' ⟨rfl, ⟨nd, rfl⟩⟩; (try first | exact ⟨rfl, _, World.drewN_drewN _ _ _⟩ | exact ⟨rfl, _, Eq.trans (World.drewN_drewN _ _ _) (congrArg (World.drewN _) (Nat.add_assoc _ _ _))⟩))))
           go_roundg k1
           case measure => have := HK1.out; omega
           case rel => exact ⟨(wrap64 (x13_1 + 1)), (by first | rfl | (simp; done) | (simp [*]; done)), H', ⟨by have := HK1.out; omega⟩, ⟨by repeat (first | (with_reducible first | exact HB.out | apply below_alloc | apply pw_below_drewN | apply below_drew1 | refine below_set ?_ GE166.out) | exact HB.out)⟩⟩
        ·rw [if_neg c12] at H
         have c12b0 : decide (a2 ≤ t168) = false := decide_eq_false c12
         clear c12
         have H' := Aside0.mk H
         clear H
         have p165 : 0 ≤ (x13_1 : Int) := of_decide_eq_true (by first | (with_reducible assumption) | assumption)
         have q165 : x13_1 < (l1.length : Int) := of_decide_eq_true (by first | (with_reducible assumption) | assumption)
         obtain ⟨ad165, e165, hx165_0, hx165_1, hx165_2, hx165_3⟩ := at_T38 HR1.out x13_1 p165 q165
         (try rw [← Nbq7.out] at hx165_0)
         cases e165
         replace hx165_0 := (HB.out.cell (World.block_lt_of_cell? w _ hx165_0)).trans hx165_0
         replace hx165_1 := (HB.out.cell (World.block_lt_of_cell? w _ hx165_1)).trans hx165_1
         replace hx165_2 := (HB.out.cell (World.block_lt_of_cell? w _ hx165_2)).trans hx165_2
         replace hx165_3 := (HB.out.cell (World.block_lt_of_cell? w _ hx165_3)).trans hx165_3
         replace p165 := eq_true p165
         replace q165 := eq_true q165
         go_wp2_with (first | ((with_reducible refine gate_dst (N := 8) rfl ?_); refine box_event ?hg (N := 8) ?hd (cs := #[.bool false, .int .i64 0, .int .i64 0, .int .i64 0]) (t := 38) ?hr ?_; (case hd => rfl); (case hg => rfl); (case hr => first | (go_simp; done) | (go_simp; rfl)); intro gb166 hg w19 hbox hb; have n0_ := Aside0.mk (below_step (by repeat (first | (with_reducible first | exact HB.out | apply below_alloc | apply pw_below_drewN | apply below_drew1) | exact HB.out)) hb); have n1_ := Aside0.mk (hbox); have n2_ := Aside0.mk ((by rw [hg]; exact (below_size (by repeat (first | (with_reducible first | exact HB.out | apply below_alloc | apply pw_below_drewN | apply below_drew1) | exact HB.out))) : w.heap.size ≤ gb166)); have n3_ := Aside0.mk ((by rw [hg]; exact (below_size (by repeat (first | (with_reducible first | exact HB.out | apply below_alloc | apply pw_below_drewN | apply below_drew1) | exact HB.out))) : w.heap.size ≤ gb166)); clear HB; have HB := n0_; have BK166 := n1_; have GW166 := n2_; have GE166 := n3_; clear n0_ n1_ n2_ n3_; clear hb hbox hg; have hcz20_0 : w19.cell? ⟨gb166, 0, none⟩ = some (.bool false) := (blk_cell BK166.out 0).trans rfl; have hcz20_1 : w19.cell? ⟨gb166, 1, none⟩ = some (.int .i64 0) := (blk_cell BK166.out 1).trans rfl; have hcz20_2 : w19.cell? ⟨gb166, 2, none⟩ = some (.int .i64 0) := (blk_cell BK166.out 2).trans rfl; have hcz20_3 : w19.cell? ⟨gb166, 3, none⟩ = some (.int .i64 0) := (blk_cell BK166.out 3).trans rfl; have hfz20_0 := blk_frozen BK166.out 0; have hfz20_1 := blk_frozen BK166.out 1; have hfz20_2 := blk_frozen BK166.out 2; have hfz20_3 := blk_frozen BK166.out 3) | (go_at_call 20; (with_reducible refine (spec_Low.calls a0 t167 _ A9.out).mono ?_); rintro e w' ⟨rfl, ⟨nd, rfl⟩⟩; (try first | exact ⟨rfl, _, World.drewN_drewN _ _ _⟩ | exact ⟨rfl, _, Eq.trans (World.drewN_drewN _ _ _) (congrArg (World.drewN _) (Nat.add_assoc _ _ _))⟩)) | (go_at_call 21; (with_reducible refine (spec_High.calls a0 t168 _ A10.out).mono ?_); rintro e w' ⟨rfl, ⟨nd, rfl⟩⟩; (try first | exact ⟨rfl, _, World.drewN_drewN _ _ _⟩ | exact ⟨rfl, _, Eq.trans (World.drewN_drewN _ _ _) (congrArg (World.drewN _) (Nat.add_assoc _ _ _))⟩)))
         repeat (go_quiet (first | ((with_reducible refine gate_dst (N := 8) rfl ?_); refine box_event ?hg (N := 8) ?hd (cs := #[.bool false, .int .i64 0, .int .i64 0, .int .i64 0]) (t := 38) ?hr ?_; (case hd => rfl); (case hg => rfl); (case hr => first | (go_simp; done) | (go_simp; rfl)); intro gb166 hg w19 hbox hb; have n0_ := Aside0.mk (below_step (by repeat (first | (with_reducible first | exact HB.out | apply below_alloc | apply pw_below_drewN | apply below_drew1) | exact HB.out)) hb); have n1_ := Aside0.mk (hbox); have n2_ := Aside0.mk ((by rw [hg]; exact (below_size (by repeat (first | (with_reducible first | exact HB.out | apply below_alloc | apply pw_below_drewN | apply below_drew1) | exact HB.out))) : w.heap.size ≤ gb166)); have n3_ := Aside0.mk ((by rw [hg]; exact (below_size (by repeat (first | (with_reducible first | exact HB.out | apply below_alloc | apply pw_below_drewN | apply below_drew1) | exact HB.out))) : w.heap.size ≤ gb166)); clear HB; have HB := n0_; have BK166 := n1_; have GW166 := n2_; have GE166 := n3_; clear n0_ n1_ n2_ n3_; clear hb hbox hg; have hcz20_0 : w19.cell? ⟨gb166, 0, none⟩ = some (.bool false) := (blk_cell BK166.out 0).trans rfl; have hcz20_1 : w19.cell? ⟨gb166, 1, none⟩ = some (.int .i64 0) := (blk_cell BK166.out 1).trans rfl; have hcz20_2 : w19.cell? ⟨gb166, 2, none⟩ = some (.int .i64 0) := (blk_cell BK166.out 2).trans rfl; have hcz20_3 : w19.cell? ⟨gb166, 3, none⟩ = some (.int .i64 0) := (blk_cell BK166.out 3).trans rfl; have hfz20_0 := blk_frozen BK166.out 0; have hfz20_1 := blk_frozen BK166.out 1; have hfz20_2 := blk_frozen BK166.out 2; have hfz20_3 := blk_frozen BK166.out 3) | (go_at_call 20; (with_reducible refine (spec_Low.calls a0 t167 _ A9.out).mono ?_); rintro e w' ⟨rfl, ⟨nd, rfl⟩⟩; (try first | exact ⟨rfl, _, World.drewN_drewN _ _ _⟩ | exact ⟨rfl, _, Eq.trans (World.drewN_drewN _ _ _) (congrArg (World.drewN _) (Nat.add_assoc _ _ _))⟩)) | (go_at_call 21; (with_reducible refine (spec_High.calls a0 t168 _ A10.out).mono ?_); rintro e w' ⟨rfl, ⟨nd, rfl⟩⟩; (try first | exact ⟨rfl, _, World.drewN_drewN _ _ _⟩ | exact ⟨rfl, _, Eq.trans (World.drewN_drewN _ _ _) (congrArg (World.drewN _) (Nat.add_assoc _ _ _))⟩))); try go_wp2_with (first | ((with_reducible refine gate_dst (N := 8) rfl ?_); refine box_event ?hg (N := 8) ?hd (cs := #[.bool false, .int .i64 0, .int .i64 0, .int .i64 0]) (t := 38) ?hr ?_; (case hd => rfl); (case hg => rfl); (case hr => first | (go_simp; done) | (go_simp; rfl)); intro gb166 hg w19 hbox hb; have n0_ := Aside0.mk (below_step (by repeat (first | (with_reducible first | exact HB.out | apply below_alloc | apply pw_below_drewN | apply below_drew1) | exact HB.out)) hb); have n1_ := Aside0.mk (hbox); have n2_ := Aside0.mk ((by rw [hg]; exact (below_size (by repeat (first | (with_reducible first | exact HB.out | apply below_alloc | apply pw_below_drewN | apply below_drew1) | exact HB.out))) : w.heap.size ≤ gb166)); have n3_ := Aside0.mk ((by rw [hg]; exact (below_size (by repeat (first | (with_reducible first | exact HB.out | apply below_alloc | apply pw_below_drewN | apply below_drew1) | exact HB.out))) : w.heap.size ≤ gb166)); clear HB; have HB := n0_; have BK166 := n1_; have GW166 := n2_; have GE166 := n3_; clear n0_ n1_ n2_ n3_; clear hb hbox hg; have hcz20_0 : w19.cell? ⟨gb166, 0, none⟩ = some (.bool false) := (blk_cell BK166.out 0).trans rfl; have hcz20_1 : w19.cell? ⟨gb166, 1, none⟩ = some (.int .i64 0) := (blk_cell BK166.out 1).trans rfl; have hcz20_2 : w19.cell? ⟨gb166, 2, none⟩ = some (.int .i64 0) := (blk_cell BK166.out 2).trans rfl; have hcz20_3 : w19.cell? ⟨gb166, 3, none⟩ = some (.int .i64 0) := (blk_cell BK166.out 3).trans rfl; have hfz20_0 := blk_frozen BK166.out 0; have hfz20_1 := blk_frozen BK166.out 1; have hfz20_2 := blk_frozen BK166.out 2; have hfz20_3 := blk_frozen BK166.out 3) | (go_at_call 20; (with_reducible refine (spec_Low.calls a0 t167 _ A9.out).mono ?_); rintro e w' ⟨rfl, ⟨nd, rfl⟩⟩; (try first | exact ⟨rfl, _, World.drewN_drewN _ _ _⟩ | exact ⟨rfl, _, Eq.trans (World.drewN_drewN _ _ _) (congrArg (World.drewN _) (Nat.add_assoc _ _ _))⟩)) | (go_at_call 21; (with_reducible refine (spec_High.calls a0 t168 _ A10.out).mono ?_); rintro e w' ⟨rfl, ⟨nd, rfl⟩⟩; (try first | exact ⟨rfl, _, World.drewN_drewN _ _ _⟩ | exact ⟨rfl, _, Eq.trans (World.drewN_drewN _ _ _) (congrArg (World.drewN _) (Nat.add_assoc _ _ _))⟩))))
         go_roundg k1
         case measure => have := HK1.out; omega
         case rel => exact ⟨(wrap64 (x13_1 + 1)), (by first | rfl | (simp; done) | (simp [*]; done)), H', ⟨by have := HK1.out; omega⟩, ⟨by repeat (first | (with_reducible first | exact HB.out | apply below_alloc | apply pw_below_drewN | apply below_drew1 | refine below_set ?_ GE166.out) | exact HB.out)⟩⟩
       ·rw [if_neg c11] at H
        have c11b0 : decide (t167 ≤ a2) = false := decide_eq_false c11
        clear c11
        have H' := Aside0.mk H
        clear H
        have p165 : 0 ≤ (x13_1 : Int) := of_decide_eq_true (by first | (with_reducible assumption) | assumption)
        have q165 : x13_1 < (l1.length : Int) := of_decide_eq_true (by first | (with_reducible assumption) | assumption)
        obtain ⟨ad165, e165, hx165_0, hx165_1, hx165_2, hx165_3⟩ := at_T38 HR1.out x13_1 p165 q165
        (try rw [← Nbq7.out] at hx165_0)
        cases e165
        replace hx165_0 := (HB.out.cell (World.block_lt_of_cell? w _ hx165_0)).trans hx165_0
        replace hx165_1 := (HB.out.cell (World.block_lt_of_cell? w _ hx165_1)).trans hx165_1
        replace hx165_2 := (HB.out.cell (World.block_lt_of_cell? w _ hx165_2)).trans hx165_2
        replace hx165_3 := (HB.out.cell (World.block_lt_of_cell? w _ hx165_3)).trans hx165_3
        replace p165 := eq_true p165
        replace q165 := eq_true q165
        go_wp2_with (first | ((with_reducible refine gate_dst (N := 8) rfl ?_); refine box_event ?hg (N := 8) ?hd (cs := #[.bool false, .int .i64 0, .int .i64 0, .int .i64 0]) (t := 38) ?hr ?_; (case hd => rfl); (case hg => rfl); (case hr => first | (go_simp; done) | (go_simp; rfl)); intro gb166 hg w21 hbox hb; have n0_ := Aside0.mk (below_step (by repeat (first | (with_reducible first | exact HB.out | apply below_alloc | apply pw_below_drewN | apply below_drew1) | exact HB.out)) hb); have n1_ := Aside0.mk (hbox); have n2_ := Aside0.mk ((by rw [hg]; exact (below_size (by repeat (first | (with_reducible first | exact HB.out | apply below_alloc | apply pw_below_drewN | apply below_drew1) | exact HB.out))) : w.heap.size ≤ gb166)); have n3_ := Aside0.mk ((by rw [hg]; exact (below_size (by repeat (first | (with_reducible first | exact HB.out | apply below_alloc | apply pw_below_drewN | apply below_drew1) | exact HB.out))) : w.heap.size ≤ gb166)); clear HB; have HB := n0_; have BK166 := n1_; have GW166 := n2_; have GE166 := n3_; clear n0_ n1_ n2_ n3_; clear hb hbox hg; have hcz22_0 : w21.cell? ⟨gb166, 0, none⟩ = some (.bool false) := (blk_cell BK166.out 0).trans rfl; have hcz22_1 : w21.cell? ⟨gb166, 1, none⟩ = some (.int .i64 0) := (blk_cell BK166.out 1).trans rfl; have hcz22_2 : w21.cell? ⟨gb166, 2, none⟩ = some (.int .i64 0) := (blk_cell BK166.out 2).trans rfl; have hcz22_3 : w21.cell? ⟨gb166, 3, none⟩ = some (.int .i64 0) := (blk_cell BK166.out 3).trans rfl; have hfz22_0 := blk_frozen BK166.out 0; have hfz22_1 := blk_frozen BK166.out 1; have hfz22_2 := blk_frozen BK166.out 2; have hfz22_3 := blk_frozen BK166.out 3) | (go_at_call 20; (with_reducible refine (spec_Low.calls a0 t167 _ A9.out).mono ?_); rintro e w' ⟨rfl, ⟨nd, rfl⟩⟩; (try first | exact ⟨rfl, _, World.drewN_drewN _ _ _⟩ | exact ⟨rfl, _, Eq.trans (World.drewN_drewN _ _ _) (congrArg (World.drewN _) (Nat.add_assoc _ _ _))⟩)) | (go_at_call 21; (with_reducible refine (spec_High.calls a0 t168 _ A10.out).mono ?_); rintro e w' ⟨rfl, ⟨nd, rfl⟩⟩; (try first | exact ⟨rfl, _, World.drewN_drewN _ _ _⟩ | exact ⟨rfl, _, Eq.trans (World.drewN_drewN _ _ _) (congrArg (World.drewN _) (Nat.add_assoc _ _ _))⟩)))
        repeat (go_quiet (first | ((with_reducible refine gate_dst (N := 8) rfl ?_); refine box_event ?hg (N := 8) ?hd (cs := #[.bool false, .int .i64 0, .int .i64 0, .int .i64 0]) (t := 38) ?hr ?_; (case hd => rfl); (case hg => rfl); (case hr => first | (go_simp; done) | (go_simp; rfl)); intro gb166 hg w21 hbox hb; have n0_ := Aside0.mk (below_step (by repeat (first | (with_reducible first | exact HB.out | apply below_alloc | apply pw_below_drewN | apply below_drew1) | exact HB.out)) hb); have n1_ := Aside0.mk (hbox); have n2_ := Aside0.mk ((by rw [hg]; exact (below_size (by repeat (first | (with_reducible first | exact HB.out | apply below_alloc | apply pw_below_drewN | apply below_drew1) | exact HB.out))) : w.heap.size ≤ gb166)); have n3_ := Aside0.mk ((by rw [hg]; exact (below_size (by repeat (first | (with_reducible first | exact HB.out | apply below_alloc | apply pw_below_drewN | apply below_drew1) | exact HB.out))) : w.heap.size ≤ gb166)); clear HB; have HB := n0_; have BK166 := n1_; have GW166 := n2_; have GE166 := n3_; clear n0_ n1_ n2_ n3_; clear hb hbox hg; have hcz22_0 : w21.cell? ⟨gb166, 0, none⟩ = some (.bool false) := (blk_cell BK166.out 0).trans rfl; have hcz22_1 : w21.cell? ⟨gb166, 1, none⟩ = some (.int .i64 0) := (blk_cell BK166.out 1).trans rfl; have hcz22_2 : w21.cell? ⟨gb166, 2, none⟩ = some (.int .i64 0) := (blk_cell BK166.out 2).trans rfl; have hcz22_3 : w21.cell? ⟨gb166, 3, none⟩ = some (.int .i64 0) := (blk_cell BK166.out 3).trans rfl; have hfz22_0 := blk_frozen BK166.out 0; have hfz22_1 := blk_frozen BK166.out 1; have hfz22_2 := blk_frozen BK166.out 2; have hfz22_3 := blk_frozen BK166.out 3) | (go_at_call 20; (with_reducible refine (spec_Low.calls a0 t167 _ A9.out).mono ?_); rintro e w' ⟨rfl, ⟨nd, rfl⟩⟩; (try first | exact ⟨rfl, _, World.drewN_drewN _ _ _⟩ | exact ⟨rfl, _, Eq.trans (World.drewN_drewN _ _ _) (congrArg (World.drewN _) (Nat.add_assoc _ _ _))⟩)) | (go_at_call 21; (with_reducible refine (spec_High.calls a0 t168 _ A10.out).mono ?_); rintro e w' ⟨rfl, ⟨nd, rfl⟩⟩; (try first | exact ⟨rfl, _, World.drewN_drewN _ _ _⟩ | exact ⟨rfl, _, Eq.trans (World.drewN_drewN _ _ _) (congrArg (World.drewN _) (Nat.add_assoc _ _ _))⟩))); try go_wp2_with (first | ((with_reducible refine gate_dst (N := 8) rfl ?_); refine box_event ?hg (N := 8) ?hd (cs := #[.bool false, .int .i64 0, .int .i64 0, .int .i64 0]) (t := 38) ?hr ?_; (case hd => rfl); (case hg => rfl); (case hr => first | (go_simp; done) | (go_simp; rfl)); intro gb166 hg w21 hbox hb; have n0_ := Aside0.mk (below_step (by repeat (first | (with_reducible first | exact HB.out | apply below_alloc | apply pw_below_drewN | apply below_drew1) | exact HB.out)) hb); have n1_ := Aside0.mk (hbox); have n2_ := Aside0.mk ((by rw [hg]; exact (below_size (by repeat (first | (with_reducible first | exact HB.out | apply below_alloc | apply pw_below_drewN | apply below_drew1) | exact HB.out))) : w.heap.size ≤ gb166)); have n3_ := Aside0.mk ((by rw [hg]; exact (below_size (by repeat (first | (with_reducible first | exact HB.out | apply below_alloc | apply pw_below_drewN | apply below_drew1) | exact HB.out))) : w.heap.size ≤ gb166)); clear HB; have HB := n0_; have BK166 := n1_; have GW166 := n2_; have GE166 := n3_; clear n0_ n1_ n2_ n3_; clear hb hbox hg; have hcz22_0 : w21.cell? ⟨gb166, 0, none⟩ = some (.bool false) := (blk_cell BK166.out 0).trans rfl; have hcz22_1 : w21.cell? ⟨gb166, 1, none⟩ = some (.int .i64 0) := (blk_cell BK166.out 1).trans rfl; have hcz22_2 : w21.cell? ⟨gb166, 2, none⟩ = some (.int .i64 0) := (blk_cell BK166.out 2).trans rfl; have hcz22_3 : w21.cell? ⟨gb166, 3, none⟩ = some (.int .i64 0) := (blk_cell BK166.out 3).trans rfl; have hfz22_0 := blk_frozen BK166.out 0; have hfz22_1 := blk_frozen BK166.out 1; have hfz22_2 := blk_frozen BK166.out 2; have hfz22_3 := blk_frozen BK166.out 3) | (go_at_call 20; (with_reducible refine (spec_Low.calls a0 t167 _ A9.out).mono ?_); rintro e w' ⟨rfl, ⟨nd, rfl⟩⟩; (try first | exact ⟨rfl, _, World.drewN_drewN _ _ _⟩ | exact ⟨rfl, _, Eq.trans (World.drewN_drewN _ _ _) (congrArg (World.drewN _) (Nat.add_assoc _ _ _))⟩)) | (go_at_call 21; (with_reducible refine (spec_High.calls a0 t168 _ A10.out).mono ?_); rintro e w' ⟨rfl, ⟨nd, rfl⟩⟩; (try first | exact ⟨rfl, _, World.drewN_drewN _ _ _⟩ | exact ⟨rfl, _, Eq.trans (World.drewN_drewN _ _ _) (congrArg (World.drewN _) (Nat.add_assoc _ _ _))⟩))))
        go_roundg k1
        case measure => have := HK1.out; omega
        case rel => exact ⟨(wrap64 (x13_1 + 1)), (by first | rfl | (simp; done) | (simp [*]; done)), H', ⟨by have := HK1.out; omega⟩, ⟨by repeat (first | (with_reducible first | exact HB.out | apply below_alloc | apply pw_below_drewN | apply below_drew1 | refine below_set ?_ GE166.out) | exact HB.out)⟩⟩
      ·replace c8 := Bool.eq_false_iff.mpr c8
       subst c8
       have H1 : (if a2 ≥ ((rd_T38 l1 x13_1).f1) then (if a2 ≤ ((rd_T38 l1 x13_1).f2) then (if ((rd_T38 l1 x13_1).f3) = 0 then (none) else (if (Int.tmod (wrap64 (a2 - ((rd_T38 l1 x13_1).f1))) ((rd_T38 l1 x13_1).f3)) = 0 then (some true) else (spec_Has.l0 k1 a0 a2 l1 (l1.length : Int) (wrap64 (x13_1 + 1))))) else (spec_Has.l0 k1 a0 a2 l1 (l1.length : Int) (wrap64 (x13_1 + 1)))) else (spec_Has.l0 k1 a0 a2 l1 (l1.length : Int) (wrap64 (x13_1 + 1)))) = some r := by rw [if_neg (show ¬ (false = true) by decide)] at H; exact H
       clear H
       have H := H1
       clear H1
       by_cases c23 : a2 ≥ ((rd_T38 l1 x13_1).f1)
       ·rw [if_pos c23] at H
        have c23b0 : decide (((rd_T38 l1 x13_1).f1) ≤ a2) = true := decide_eq_true c23
        clear c23
        by_cases c24 : a2 ≤ ((rd_T38 l1 x13_1).f2)
        ·rw [if_pos c24] at H
         have c24b0 : decide (a2 ≤ ((rd_T38 l1 x13_1).f2)) = true := decide_eq_true c24
         clear c24
         by_cases c25 : ((rd_T38 l1 x13_1).f3) = 0
         ·rw [if_pos c25] at H
          exact absurd H (by simp)
         ·rw [if_neg c25] at H
          have c25b0 : (((rd_T38 l1 x13_1).f3) == 0) = false := beq_eq_false_iff_ne.mpr c25
          have c25b1 : (((rd_T38 l1 x13_1).f3) != 0) = true := bne_iff_ne.mpr c25
          by_cases c26 : (Int.tmod (wrap64 (a2 - ((rd_T38 l1 x13_1).f1))) ((rd_T38 l1 x13_1).f3)) = 0
          ·rw [if_pos c26] at H
           have c26b0 : ((Int.tmod (wrap64 (a2 - ((rd_T38 l1 x13_1).f1))) ((rd_T38 l1 x13_1).f3)) == 0) = true := beq_iff_eq.mpr c26
           have c26b1 : ((Int.tmod (wrap64 (a2 - ((rd_T38 l1 x13_1).f1))) ((rd_T38 l1 x13_1).f3)) != 0) = false := bne_eq_false_iff_eq.mpr c26
           clear c26
           obtain rfl := Option.some.inj H
           have p165 : 0 ≤ (x13_1 : Int) := of_decide_eq_true (by first | (with_reducible assumption) | assumption)
           have q165 : x13_1 < (l1.length : Int) := of_decide_eq_true (by first | (with_reducible assumption) | assumption)
           obtain ⟨ad165, e165, hx165_0, hx165_1, hx165_2, hx165_3⟩ := at_T38 HR1.out x13_1 p165 q165
           (try rw [← Nbq7.out] at hx165_0)
           cases e165
           replace hx165_0 := (HB.out.cell (World.block_lt_of_cell? w _ hx165_0)).trans hx165_0
           replace hx165_1 := (HB.out.cell (World.block_lt_of_cell? w _ hx165_1)).trans hx165_1
           replace hx165_2 := (HB.out.cell (World.block_lt_of_cell? w _ hx165_2)).trans hx165_2
           replace hx165_3 := (HB.out.cell (World.block_lt_of_cell? w _ hx165_3)).trans hx165_3
           replace p165 := eq_true p165
           replace q165 := eq_true q165
           go_wp2_with (first | ((with_reducible refine gate_dst (N := 8) rfl ?_); refine box_event ?hg (N := 8) ?hd (cs := #[.bool false, .int .i64 0, .int .i64 0, .int .i64 0]) (t := 38) ?hr ?_; (case hd => rfl); (case hg => rfl); (case hr => first | (go_simp; done) | (go_simp; rfl)); intro gb166 hg w27 hbox hb; have n0_ := Aside0.mk (below_step (by repeat (first | (with_reducible first | exact HB.out | apply below_alloc | apply pw_below_drewN | apply below_drew1) | exact HB.out)) hb); have n1_ := Aside0.mk (hbox); have n2_ := Aside0.mk ((by rw [hg]; exact (below_size (by repeat (first | (with_reducible first | exact HB.out | apply below_alloc | apply pw_below_drewN | apply below_drew1) | exact HB.out))) : w.heap.size ≤ gb166)); have n3_ := Aside0.mk ((by rw [hg]; exact (below_size (by repeat (first | (with_reducible first | exact HB.out | apply below_alloc | apply pw_below_drewN | apply below_drew1) | exact HB.out))) : w.heap.size ≤ gb166)); clear HB; have HB := n0_; have BK166 := n1_; have GW166 := n2_; have GE166 := n3_; clear n0_ n1_ n2_ n3_; clear hb hbox hg; have hcz28_0 : w27.cell? ⟨gb166, 0, none⟩ = some (.bool false) := (blk_cell BK166.out 0).trans rfl; have hcz28_1 : w27.cell? ⟨gb166, 1, none⟩ = some (.int .i64 0) := (blk_cell BK166.out 1).trans rfl; have hcz28_2 : w27.cell? ⟨gb166, 2, none⟩ = some (.int .i64 0) := (blk_cell BK166.out 2).trans rfl; have hcz28_3 : w27.cell? ⟨gb166, 3, none⟩ = some (.int .i64 0) := (blk_cell BK166.out 3).trans rfl; have hfz28_0 := blk_frozen BK166.out 0; have hfz28_1 := blk_frozen BK166.out 1; have hfz28_2 := blk_frozen BK166.out 2; have hfz28_3 := blk_frozen BK166.out 3))
           repeat (go_quiet (first | ((with_reducible refine gate_dst (N := 8) rfl ?_); refine box_event ?hg (N := 8) ?hd (cs := #[.bool false, .int .i64 0, .int .i64 0, .int .i64 0]) (t := 38) ?hr ?_; (case hd => rfl); (case hg => rfl); (case hr => first | (go_simp; done) | (go_simp; rfl)); intro gb166 hg w27 hbox hb; have n0_ := Aside0.mk (below_step (by repeat (first | (with_reducible first | exact HB.out | apply below_alloc | apply pw_below_drewN | apply below_drew1) | exact HB.out)) hb); have n1_ := Aside0.mk (hbox); have n2_ := Aside0.mk ((by rw [hg]; exact (below_size (by repeat (first | (with_reducible first | exact HB.out | apply below_alloc | apply pw_below_drewN | apply below_drew1) | exact HB.out))) : w.heap.size ≤ gb166)); have n3_ := Aside0.mk ((by rw [hg]; exact (below_size (by repeat (first | (with_reducible first | exact HB.out | apply below_alloc | apply pw_below_drewN | apply below_drew1) | exact HB.out))) : w.heap.size ≤ gb166)); clear HB; have HB := n0_; have BK166 := n1_; have GW166 := n2_; have GE166 := n3_; clear n0_ n1_ n2_ n3_; clear hb hbox hg; have hcz28_0 : w27.cell? ⟨gb166, 0, none⟩ = some (.bool false) := (blk_cell BK166.out 0).trans rfl; have hcz28_1 : w27.cell? ⟨gb166, 1, none⟩ = some (.int .i64 0) := (blk_cell BK166.out 1).trans rfl; have hcz28_2 : w27.cell? ⟨gb166, 2, none⟩ = some (.int .i64 0) := (blk_cell BK166.out 2).trans rfl; have hcz28_3 : w27.cell? ⟨gb166, 3, none⟩ = some (.int .i64 0) := (blk_cell BK166.out 3).trans rfl; have hfz28_0 := blk_frozen BK166.out 0; have hfz28_1 := blk_frozen BK166.out 1; have hfz28_2 := blk_frozen BK166.out 2; have hfz28_3 := blk_frozen BK166.out 3)); try go_wp2_with (first | ((with_reducible refine gate_dst (N := 8) rfl ?_); refine box_event ?hg (N := 8) ?hd (cs := #[.bool false, .int .i64 0, .int .i64 0, .int .i64 0]) (t := 38) ?hr ?_; (case hd => rfl); (case hg => rfl); (case hr => first | (go_simp; done) | (go_simp; rfl)); intro gb166 hg w27 hbox hb; have n0_ := Aside0.mk (below_step (by repeat (first | (with_reducible first | exact HB.out | apply below_alloc | apply pw_below_drewN | apply below_drew1) | exact HB.out)) hb); have n1_ := Aside0.mk (hbox); have n2_ := Aside0.mk ((by rw [hg]; exact (below_size (by repeat (first | (with_reducible first | exact HB.out | apply below_alloc | apply pw_below_drewN | apply below_drew1) | exact HB.out))) : w.heap.size ≤ gb166)); have n3_ := Aside0.mk ((by rw [hg]; exact (below_size (by repeat (first | (with_reducible first | exact HB.out | apply below_alloc | apply pw_below_drewN | apply below_drew1) | exact HB.out))) : w.heap.size ≤ gb166)); clear HB; have HB := n0_; have BK166 := n1_; have GW166 := n2_; have GE166 := n3_; clear n0_ n1_ n2_ n3_; clear hb hbox hg; have hcz28_0 : w27.cell? ⟨gb166, 0, none⟩ = some (.bool false) := (blk_cell BK166.out 0).trans rfl; have hcz28_1 : w27.cell? ⟨gb166, 1, none⟩ = some (.int .i64 0) := (blk_cell BK166.out 1).trans rfl; have hcz28_2 : w27.cell? ⟨gb166, 2, none⟩ = some (.int .i64 0) := (blk_cell BK166.out 2).trans rfl; have hcz28_3 : w27.cell? ⟨gb166, 3, none⟩ = some (.int .i64 0) := (blk_cell BK166.out 3).trans rfl; have hfz28_0 := blk_frozen BK166.out 0; have hfz28_1 := blk_frozen BK166.out 1; have hfz28_2 := blk_frozen BK166.out 2; have hfz28_3 := blk_frozen BK166.out 3)))
           go_ret
           exact ⟨by first | rfl | (simp [errW_none, errW_some] <;> rfl) | (simp [*, errW_none, errW_some] <;> rfl), by repeat (first | (with_reducible first | exact HB.out | apply below_alloc | apply pw_below_drewN | apply below_drew1 | refine below_set ?_ GE166.out) | exact HB.out)⟩
          ·rw [if_neg c26] at H
           have c26b0 : ((Int.tmod (wrap64 (a2 - ((rd_T38 l1 x13_1).f1))) ((rd_T38 l1 x13_1).f3)) == 0) = false := beq_eq_false_iff_ne.mpr c26
           have c26b1 : ((Int.tmod (wrap64 (a2 - ((rd_T38 l1 x13_1).f1))) ((rd_T38 l1 x13_1).f3)) != 0) = true := bne_iff_ne.mpr c26
           have H' := Aside0.mk H
           clear H
           have p165 : 0 ≤ (x13_1 : Int) := of_decide_eq_true (by first | (with_reducible assumption) | assumption)
           have q165 : x13_1 < (l1.length : Int) := of_decide_eq_true (by first | (with_reducible assumption) | assumption)
           obtain ⟨ad165, e165, hx165_0, hx165_1, hx165_2, hx165_3⟩ := at_T38 HR1.out x13_1 p165 q165
           (try rw [← Nbq7.out] at hx165_0)
           cases e165
           replace hx165_0 := (HB.out.cell (World.block_lt_of_cell? w _ hx165_0)).trans hx165_0
           replace hx165_1 := (HB.out.cell (World.block_lt_of_cell? w _ hx165_1)).trans hx165_1
           replace hx165_2 := (HB.out.cell (World.block_lt_of_cell? w _ hx165_2)).trans hx165_2
           replace hx165_3 := (HB.out.cell (World.block_lt_of_cell? w _ hx165_3)).trans hx165_3
           replace p165 := eq_true p165
           replace q165 := eq_true q165
           go_wp2_with (first | ((with_reducible refine gate_dst (N := 8) rfl ?_); refine box_event ?hg (N := 8) ?hd (cs := #[.bool false, .int .i64 0, .int .i64 0, .int .i64 0]) (t := 38) ?hr ?_; (case hd => rfl); (case hg => rfl); (case hr => first | (go_simp; done) | (go_simp; rfl)); intro gb166 hg w29 hbox hb; have n0_ := Aside0.mk (below_step (by repeat (first | (with_reducible first | exact HB.out | apply below_alloc | apply pw_below_drewN | apply below_drew1) | exact HB.out)) hb); have n1_ := Aside0.mk (hbox); have n2_ := Aside0.mk ((by rw [hg]; exact (below_size (by repeat (first | (with_reducible first | exact HB.out | apply below_alloc | apply pw_below_drewN | apply below_drew1) | exact HB.out))) : w.heap.size ≤ gb166)); have n3_ := Aside0.mk ((by rw [hg]; exact (below_size (by repeat (first | (with_reducible first | exact HB.out | apply below_alloc | apply pw_below_drewN | apply below_drew1) | exact HB.out))) : w.heap.size ≤ gb166)); clear HB; have HB := n0_; have BK166 := n1_; have GW166 := n2_; have GE166 := n3_; clear n0_ n1_ n2_ n3_; clear hb hbox hg; have hcz30_0 : w29.cell? ⟨gb166, 0, none⟩ = some (.bool false) := (blk_cell BK166.out 0).trans rfl; have hcz30_1 : w29.cell? ⟨gb166, 1, none⟩ = some (.int .i64 0) := (blk_cell BK166.out 1).trans rfl; have hcz30_2 : w29.cell? ⟨gb166, 2, none⟩ = some (.int .i64 0) := (blk_cell BK166.out 2).trans rfl; have hcz30_3 : w29.cell? ⟨gb166, 3, none⟩ = some (.int .i64 0) := (blk_cell BK166.out 3).trans rfl; have hfz30_0 := blk_frozen BK166.out 0; have hfz30_1 := blk_frozen BK166.out 1; have hfz30_2 := blk_frozen BK166.out 2; have hfz30_3 := blk_frozen BK166.out 3))
           repeat (go_quiet (first | ((with_reducible refine gate_dst (N := 8) rfl ?_); refine box_event ?hg (N := 8) ?hd (cs := #[.bool false, .int .i64 0, .int .i64 0, .int .i64 0]) (t := 38) ?hr ?_; (case hd => rfl); (case hg => rfl); (case hr => first | (go_simp; done) | (go_simp; rfl)); intro gb166 hg w29 hbox hb; have n0_ := Aside0.mk (below_step (by repeat (first | (with_reducible first | exact HB.out | apply below_alloc | apply pw_below_drewN | apply below_drew1) | exact HB.out)) hb); have n1_ := Aside0.mk (hbox); have n2_ := Aside0.mk ((by rw [hg]; exact (below_size (by repeat (first | (with_reducible first | exact HB.out | apply below_alloc | apply pw_below_drewN | apply below_drew1) | exact HB.out))) : w.heap.size ≤ gb166)); have n3_ := Aside0.mk ((by rw [hg]; exact (below_size (by repeat (first | (with_reducible first | exact HB.out | apply below_alloc | apply pw_below_drewN | apply below_drew1) | exact HB.out))) : w.heap.size ≤ gb166)); clear HB; have HB := n0_; have BK166 := n1_; have GW166 := n2_; have GE166 := n3_; clear n0_ n1_ n2_ n3_; clear hb hbox hg; have hcz30_0 : w29.cell? ⟨gb166, 0, none⟩ = some (.bool false) := (blk_cell BK166.out 0).trans rfl; have hcz30_1 : w29.cell? ⟨gb166, 1, none⟩ = some (.int .i64 0) := (blk_cell BK166.out 1).trans rfl; have hcz30_2 : w29.cell? ⟨gb166, 2, none⟩ = some (.int .i64 0) := (blk_cell BK166.out 2).trans rfl; have hcz30_3 : w29.cell? ⟨gb166, 3, none⟩ = some (.int .i64 0) := (blk_cell BK166.out 3).trans rfl; have hfz30_0 := blk_frozen BK166.out 0; have hfz30_1 := blk_frozen BK166.out 1; have hfz30_2 := blk_frozen BK166.out 2; have hfz30_3 := blk_frozen BK166.out 3)); try go_wp2_with (first | ((with_reducible refine gate_dst (N := 8) rfl ?_); refine box_event ?hg (N := 8) ?hd (cs := #[.bool false, .int .i64 0, .int .i64 0, .int .i64 0]) (t := 38) ?hr ?_; (case hd => rfl); (case hg => rfl); (case hr => first | (go_simp; done) | (go_simp; rfl)); intro gb166 hg w29 hbox hb; have n0_ := Aside0.mk (below_step (by repeat (first | (with_reducible first | exact HB.out | apply below_alloc | apply pw_below_drewN | apply below_drew1) | exact HB.out)) hb); have n1_ := Aside0.mk (hbox); have n2_ := Aside0.mk ((by rw [hg]; exact (below_size (by repeat (first | (with_reducible first | exact HB.out | apply below_alloc | apply pw_below_drewN | apply below_drew1) | exact HB.out))) : w.heap.size ≤ gb166)); have n3_ := Aside0.mk ((by rw [hg]; exact (below_size (by repeat (first | (with_reducible first | exact HB.out | apply below_alloc | apply pw_below_drewN | apply below_drew1) | exact HB.out))) : w.heap.size ≤ gb166)); clear HB; have HB := n0_; have BK166 := n1_; have GW166 := n2_; have GE166 := n3_; clear n0_ n1_ n2_ n3_; clear hb hbox hg; have hcz30_0 : w29.cell? ⟨gb166, 0, none⟩ = some (.bool false) := (blk_cell BK166.out 0).trans rfl; have hcz30_1 : w29.cell? ⟨gb166, 1, none⟩ = some (.int .i64 0) := (blk_cell BK166.out 1).trans rfl; have hcz30_2 : w29.cell? ⟨gb166, 2, none⟩ = some (.int .i64 0) := (blk_cell BK166.out 2).trans rfl; have hcz30_3 : w29.cell? ⟨gb166, 3, none⟩ = some (.int .i64 0) := (blk_cell BK166.out 3).trans rfl; have hfz30_0 := blk_frozen BK166.out 0; have hfz30_1 := blk_frozen BK166.out 1; have hfz30_2 := blk_frozen BK166.out 2; have hfz30_3 := blk_frozen BK166.out 3)))
           go_roundg k1
           case measure => have := HK1.out; omega
           case rel => exact ⟨(wrap64 (x13_1 + 1)), (by first | rfl | (simp; done) | (simp [*]; done)), H', ⟨by have := HK1.out; omega⟩, ⟨by repeat (first | (with_reducible first | exact HB.out | apply below_alloc | apply pw_below_drewN | apply below_drew1 | refine below_set ?_ GE166.out) | exact HB.out)⟩⟩
        ·rw [if_neg c24] at H
         have c24b0 : decide (a2 ≤ ((rd_T38 l1 x13_1).f2)) = false := decide_eq_false c24
         clear c24
         have H' := Aside0.mk H
         clear H
         have p165 : 0 ≤ (x13_1 : Int) := of_decide_eq_true (by first | (with_reducible assumption) | assumption)
         have q165 : x13_1 < (l1.length : Int) := of_decide_eq_true (by first | (with_reducible assumption) | assumption)
         obtain ⟨ad165, e165, hx165_0, hx165_1, hx165_2, hx165_3⟩ := at_T38 HR1.out x13_1 p165 q165
         (try rw [← Nbq7.out] at hx165_0)
         cases e165
         replace hx165_0 := (HB.out.cell (World.block_lt_of_cell? w _ hx165_0)).trans hx165_0
         replace hx165_1 := (HB.out.cell (World.block_lt_of_cell? w _ hx165_1)).trans hx165_1
         replace hx165_2 := (HB.out.cell (World.block_lt_of_cell? w _ hx165_2)).trans hx165_2
         replace hx165_3 := (HB.out.cell (World.block_lt_of_cell? w _ hx165_3)).trans hx165_3
         replace p165 := eq_true p165
         replace q165 := eq_true q165
         go_wp2_with (first | ((with_reducible refine gate_dst (N := 8) rfl ?_); refine box_event ?hg (N := 8) ?hd (cs := #[.bool false, .int .i64 0, .int .i64 0, .int .i64 0]) (t := 38) ?hr ?_; (case hd => rfl); (case hg => rfl); (case hr => first | (go_simp; done) | (go_simp; rfl)); intro gb166 hg w31 hbox hb; have n0_ := Aside0.mk (below_step (by repeat (first | (with_reducible first | exact HB.out | apply below_alloc | apply pw_below_drewN | apply below_drew1) | exact HB.out)) hb); have n1_ := Aside0.mk (hbox); have n2_ := Aside0.mk ((by rw [hg]; exact (below_size (by repeat (first | (with_reducible first | exact HB.out | apply below_alloc | apply pw_below_drewN | apply below_drew1) | exact HB.out))) : w.heap.size ≤ gb166)); have n3_ := Aside0.mk ((by rw [hg]; exact (below_size (by repeat (first | (with_reducible first | exact HB.out | apply below_alloc | apply pw_below_drewN | apply below_drew1) | exact HB.out))) : w.heap.size ≤ gb166)); clear HB; have HB := n0_; have BK166 := n1_; have GW166 := n2_; have GE166 := n3_; clear n0_ n1_ n2_ n3_; clear hb hbox hg; have hcz32_0 : w31.cell? ⟨gb166, 0, none⟩ = some (.bool false) := (blk_cell BK166.out 0).trans rfl; have hcz32_1 : w31.cell? ⟨gb166, 1, none⟩ = some (.int .i64 0) := (blk_cell BK166.out 1).trans rfl; have hcz32_2 : w31.cell? ⟨gb166, 2, none⟩ = some (.int .i64 0) := (blk_cell BK166.out 2).trans rfl; have hcz32_3 : w31.cell? ⟨gb166, 3, none⟩ = some (.int .i64 0) := (blk_cell BK166.out 3).trans rfl; have hfz32_0 := blk_frozen BK166.out 0; have hfz32_1 := blk_frozen BK166.out 1; have hfz32_2 := blk_frozen BK166.out 2; have hfz32_3 := blk_frozen BK166.out 3))
         repeat (go_quiet (first | ((with_reducible refine gate_dst (N := 8) rfl ?_); refine box_event ?hg (N := 8) ?hd (cs := #[.bool false, .int .i64 0, .int .i64 0, .int .i64 0]) (t := 38) ?hr ?_; (case hd => rfl); (case hg => rfl); (case hr => first | (go_simp; done) | (go_simp; rfl)); intro gb166 hg w31 hbox hb; have n0_ := Aside0.mk (below_step (by repeat (first | (with_reducible first | exact HB.out | apply below_alloc | apply pw_below_drewN | apply below_drew1) | exact HB.out)) hb); have n1_ := Aside0.mk (hbox); have n2_ := Aside0.mk ((by rw [hg]; exact (below_size (by repeat (first | (with_reducible first | exact HB.out | apply below_alloc | apply pw_below_drewN | apply below_drew1) | exact HB.out))) : w.heap.size ≤ gb166)); have n3_ := Aside0.mk ((by rw [hg]; exact (below_size (by repeat (first | (with_reducible first | exact HB.out | apply below_alloc | apply pw_below_drewN | apply below_drew1) | exact HB.out))) : w.heap.size ≤ gb166)); clear HB; have HB := n0_; have BK166 := n1_; have GW166 := n2_; have GE166 := n3_; clear n0_ n1_ n2_ n3_; clear hb hbox hg; have hcz32_0 : w31.cell? ⟨gb166, 0, none⟩ = some (.bool false) := (blk_cell BK166.out 0).trans rfl; have hcz32_1 : w31.cell? ⟨gb166, 1, none⟩ = some (.int .i64 0) := (blk_cell BK166.out 1).trans rfl; have hcz32_2 : w31.cell? ⟨gb166, 2, none⟩ = some (.int .i64 0) := (blk_cell BK166.out 2).trans rfl; have hcz32_3 : w31.cell? ⟨gb166, 3, none⟩ = some (.int .i64 0) := (blk_cell BK166.out 3).trans rfl; have hfz32_0 := blk_frozen BK166.out 0; have hfz32_1 := blk_frozen BK166.out 1; have hfz32_2 := blk_frozen BK166.out 2; have hfz32_3 := blk_frozen BK166.out 3)); try go_wp2_with (first | ((with_reducible refine gate_dst (N := 8) rfl ?_); refine box_event ?hg (N := 8) ?hd (cs := #[.bool false, .int .i64 0, .int .i64 0, .int .i64 0]) (t := 38) ?hr ?_; (case hd => rfl); (case hg => rfl); (case hr => first | (go_simp; done) | (go_simp; rfl)); intro gb166 hg w31 hbox hb; have n0_ := Aside0.mk (below_step (by repeat (first | (with_reducible first | exact HB.out | apply below_alloc | apply pw_below_drewN | apply below_drew1) | exact HB.out)) hb); have n1_ := Aside0.mk (hbox); have n2_ := Aside0.mk ((by rw [hg]; exact (below_size (by repeat (first | (with_reducible first | exact HB.out | apply below_alloc | apply pw_below_drewN | apply below_drew1) | exact HB.out))) : w.heap.size ≤ gb166)); have n3_ := Aside0.mk ((by rw [hg]; exact (below_size (by repeat (first | (with_reducible first | exact HB.out | apply below_alloc | apply pw_below_drewN | apply below_drew1) | exact HB.out))) : w.heap.size ≤ gb166)); clear HB; have HB := n0_; have BK166 := n1_; have GW166 := n2_; have GE166 := n3_; clear n0_ n1_ n2_ n3_; clear hb hbox hg; have hcz32_0 : w31.cell? ⟨gb166, 0, none⟩ = some (.bool false) := (blk_cell BK166.out 0).trans rfl; have hcz32_1 : w31.cell? ⟨gb166, 1, none⟩ = some (.int .i64 0) := (blk_cell BK166.out 1).trans rfl; have hcz32_2 : w31.cell? ⟨gb166, 2, none⟩ = some (.int .i64 0) := (blk_cell BK166.out 2).trans rfl; have hcz32_3 : w31.cell? ⟨gb166, 3, none⟩ = some (.int .i64 0) := (blk_cell BK166.out 3).trans rfl; have hfz32_0 := blk_frozen BK166.out 0; have hfz32_1 := blk_frozen BK166.out 1; have hfz32_2 := blk_frozen BK166.out 2; have hfz32_3 := blk_frozen BK166.out 3)))
         go_roundg k1
         case measure => have := HK1.out; omega
         case rel => exact ⟨(wrap64 (x13_1 + 1)), (by first | rfl | (simp; done) | (simp [*]; done)), H', ⟨by have := HK1.out; omega⟩, ⟨by repeat (first | (with_reducible first | exact HB.out | apply below_alloc | apply pw_below_drewN | apply below_drew1 | refine below_set ?_ GE166.out) | exact HB.out)⟩⟩
       ·rw [if_neg c23] at H
        have c23b0 : decide (((rd_T38 l1 x13_1).f1) ≤ a2) = false := decide_eq_false c23
        clear c23
        have H' := Aside0.mk H
        clear H
        have p165 : 0 ≤ (x13_1 : Int) := of_decide_eq_true (by first | (with_reducible assumption) | assumption)
        have q165 : x13_1 < (l1.length : Int) := of_decide_eq_true (by first | (with_reducible assumption) | assumption)
        obtain ⟨ad165, e165, hx165_0, hx165_1, hx165_2, hx165_3⟩ := at_T38 HR1.out x13_1 p165 q165
        (try rw [← Nbq7.out] at hx165_0)
        cases e165
        replace hx165_0 := (HB.out.cell (World.block_lt_of_cell? w _ hx165_0)).trans hx165_0
        replace hx165_1 := (HB.out.cell (World.block_lt_of_cell? w _ hx165_1)).trans hx165_1
        replace hx165_2 := (HB.out.cell (World.block_lt_of_cell? w _ hx165_2)).trans hx165_2
        replace hx165_3 := (HB.out.cell (World.block_lt_of_cell? w _ hx165_3)).trans hx165_3
        replace p165 := eq_true p165
        replace q165 := eq_true q165
        go_wp2_with (first | ((with_reducible refine gate_dst (N := 8) rfl ?_); refine box_event ?hg (N := 8) ?hd (cs := #[.bool false, .int .i64 0, .int .i64 0, .int .i64 0]) (t := 38) ?hr ?_; (case hd => rfl); (case hg => rfl); (case hr => first | (go_simp; done) | (go_simp; rfl)); intro gb166 hg w33 hbox hb; have n0_ := Aside0.mk (below_step (by repeat (first | (with_reducible first | exact HB.out | apply below_alloc | apply pw_below_drewN | apply below_drew1) | exact HB.out)) hb); have n1_ := Aside0.mk (hbox); have n2_ := Aside0.mk ((by rw [hg]; exact (below_size (by repeat (first | (with_reducible first | exact HB.out | apply below_alloc | apply pw_below_drewN | apply below_drew1) | exact HB.out))) : w.heap.size ≤ gb166)); have n3_ := Aside0.mk ((by rw [hg]; exact (below_size (by repeat (first | (with_reducible first | exact HB.out | apply below_alloc | apply pw_below_drewN | apply below_drew1) | exact HB.out))) : w.heap.size ≤ gb166)); clear HB; have HB := n0_; have BK166 := n1_; have GW166 := n2_; have GE166 := n3_; clear n0_ n1_ n2_ n3_; clear hb hbox hg; have hcz34_0 : w33.cell? ⟨gb166, 0, none⟩ = some (.bool false) := (blk_cell BK166.out 0).trans rfl; have hcz34_1 : w33.cell? ⟨gb166, 1, none⟩ = some (.int .i64 0) := (blk_cell BK166.out 1).trans rfl; have hcz34_2 : w33.cell? ⟨gb166, 2, none⟩ = some (.int .i64 0) := (blk_cell BK166.out 2).trans rfl; have hcz34_3 : w33.cell? ⟨gb166, 3, none⟩ = some (.int .i64 0) := (blk_cell BK166.out 3).trans rfl; have hfz34_0 := blk_frozen BK166.out 0; have hfz34_1 := blk_frozen BK166.out 1; have hfz34_2 := blk_frozen BK166.out 2; have hfz34_3 := blk_frozen BK166.out 3))
        repeat (go_quiet (first | ((with_reducible refine gate_dst (N := 8) rfl ?_); refine box_event ?hg (N := 8) ?hd (cs := #[.bool false, .int .i64 0, .int .i64 0, .int .i64 0]) (t := 38) ?hr ?_; (case hd => rfl); (case hg => rfl); (case hr => first | (go_simp; done) | (go_simp; rfl)); intro gb166 hg w33 hbox hb; have n0_ := Aside0.mk (below_step (by repeat (first | (with_reducible first | exact HB.out | apply below_alloc | apply pw_below_drewN | apply below_drew1) | exact HB.out)) hb); have n1_ := Aside0.mk (hbox); have n2_ := Aside0.mk ((by rw [hg]; exact (below_size (by repeat (first | (with_reducible first | exact HB.out | apply below_alloc | apply pw_below_drewN | apply below_drew1) | exact HB.out))) : w.heap.size ≤ gb166)); have n3_ := Aside0.mk ((by rw [hg]; exact (below_size (by repeat (first | (with_reducible first | exact HB.out | apply below_alloc | apply pw_below_drewN | apply below_drew1) | exact HB.out))) : w.heap.size ≤ gb166)); clear HB; have HB := n0_; have BK166 := n1_; have GW166 := n2_; have GE166 := n3_; clear n0_ n1_ n2_ n3_; clear hb hbox hg; have hcz34_0 : w33.cell? ⟨gb166, 0, none⟩ = some (.bool false) := (blk_cell BK166.out 0).trans rfl; have hcz34_1 : w33.cell? ⟨gb166, 1, none⟩ = some (.int .i64 0) := (blk_cell BK166.out 1).trans rfl; have hcz34_2 : w33.cell? ⟨gb166, 2, none⟩ = some (.int .i64 0) := (blk_cell BK166.out 2).trans rfl; have hcz34_3 : w33.cell? ⟨gb166, 3, none⟩ = some (.int .i64 0) := (blk_cell BK166.out 3).trans rfl; have hfz34_0 := blk_frozen BK166.out 0; have hfz34_1 := blk_frozen BK166.out 1; have hfz34_2 := blk_frozen BK166.out 2; have hfz34_3 := blk_frozen BK166.out 3)); try go_wp2_with (first | ((with_reducible refine gate_dst (N := 8) rfl ?_); refine box_event ?hg (N := 8) ?hd (cs := #[.bool false, .int .i64 0, .int .i64 0, .int .i64 0]) (t := 38) ?hr ?_; (case hd => rfl); (case hg => rfl); (case hr => first | (go_simp; done) | (go_simp; rfl)); intro gb166 hg w33 hbox hb; have n0_ := Aside0.mk (below_step (by repeat (first | (with_reducible first | exact HB.out | apply below_alloc | apply pw_below_drewN | apply below_drew1) | exact HB.out)) hb); have n1_ := Aside0.mk (hbox); have n2_ := Aside0.mk ((by rw [hg]; exact (below_size (by repeat (first | (with_reducible first | exact HB.out | apply below_alloc | apply pw_below_drewN | apply below_drew1) | exact HB.out))) : w.heap.size ≤ gb166)); have n3_ := Aside0.mk ((by rw [hg]; exact (below_size (by repeat (first | (with_reducible first | exact HB.out | apply below_alloc | apply pw_below_drewN | apply below_drew1) | exact HB.out))) : w.heap.size ≤ gb166)); clear HB; have HB := n0_; have BK166 := n1_; have GW166 := n2_; have GE166 := n3_; clear n0_ n1_ n2_ n3_; clear hb hbox hg; have hcz34_0 : w33.cell? ⟨gb166, 0, none⟩ = some (.bool false) := (blk_cell BK166.out 0).trans rfl; have hcz34_1 : w33.cell? ⟨gb166, 1, none⟩ = some (.int .i64 0) := (blk_cell BK166.out 1).trans rfl; have hcz34_2 : w33.cell? ⟨gb166, 2, none⟩ = some (.int .i64 0) := (blk_cell BK166.out 2).trans rfl; have hcz34_3 : w33.cell? ⟨gb166, 3, none⟩ = some (.int .i64 0) := (blk_cell BK166.out 3).trans rfl; have hfz34_0 := blk_frozen BK166.out 0; have hfz34_1 := blk_frozen BK166.out 1; have hfz34_2 := blk_frozen BK166.out 2; have hfz34_3 := blk_frozen BK166.out 3)))
        go_roundg k1
        case measure => have := HK1.out; omega
        case rel => exact ⟨(wrap64 (x13_1 + 1)), (by first | rfl | (simp; done) | (simp [*]; done)), H', ⟨by have := HK1.out; omega⟩, ⟨by repeat (first | (with_reducible first | exact HB.out | apply below_alloc | apply pw_below_drewN | apply below_drew1 | refine below_set ?_ GE166.out) | exact HB.out)⟩⟩
     ·rw [if_neg c6] at H
      exact absurd H (by simp)
    ·rw [if_neg c5] at H
     exact absurd H (by simp)
   ·rw [if_neg c4] at H
    have c4b0 : decide (x13_1 < (l1.length : Int)) = false := decide_eq_false c4
    clear c4
    obtain rfl := Option.some.inj H
    go_wp2
    repeat (go_quiet (fail); try go_wp2)
    go_ret
    exact ⟨by first | rfl | (simp [errW_none, errW_some] <;> rfl) | (simp [*, errW_none, errW_some] <;> rfl), by repeat (first | (with_reducible first | exact HB.out | apply below_alloc | apply pw_below_drewN | apply below_drew1) | exact HB.out)⟩
end Go.Proofs.YtemgofomhjabpaaGreatDoor.Core
namespace Go.Proofs.YtemgofomhjabpaaGreatDoor.Core
open Go.RowKit Go.Proofs.YtemgofomhjabpaaGreatDoorW.PrintWords Go.Proofs.YtemgofomhjabpaaGreatDoorW.PrintLast Go.Proofs.YtemgofomhjabpaaGreatDoorW.PrintMore
attribute [local go_sem] max2_int min2_int max_two min_two max_three min_three max_four min_four   -- for this text's walks alone
set_option linter.unusedVariables false
set_option linter.unusedSimpArgs false
def spec_Leap.f (a0 : Int) : Option (Bool) := if (Int.tmod a0 4) = 0 then (if (Int.tmod a0 100) = 0 then (some ((Int.tmod a0 400) == 0)) else (some true)) else (some false)
set_option maxHeartbeats 8000000 in
set_option maxRecDepth 100000 in
theorem spec_Leap.calls (a0 : Int) (r : Bool) (w : World) (h : spec_Leap.f a0 = some r) :
  Calls Tryz.prog 45 #[.int .i64 a0] w fun e w' => e = .returned (.bool r) ∧ Drawn0 w w' := by
 have H : (if (Int.tmod a0 4) = 0 then (if (Int.tmod a0 100) = 0 then (some ((Int.tmod a0 400) == 0)) else (some true)) else (some false)) = some r := h
 clear h
 by_cases c2 : (Int.tmod a0 4) = 0
 ·rw [if_pos c2] at H
  have c2b0 : ((Int.tmod a0 4) == 0) = true := beq_iff_eq.mpr c2
  have c2b1 : ((Int.tmod a0 4) != 0) = false := bne_eq_false_iff_eq.mpr c2
  clear c2
  by_cases c3 : (Int.tmod a0 100) = 0
  ·rw [if_pos c3] at H
   have c3b0 : ((Int.tmod a0 100) == 0) = true := beq_iff_eq.mpr c3
   have c3b1 : ((Int.tmod a0 100) != 0) = false := bne_eq_false_iff_eq.mpr c3
   clear c3
   obtain rfl := Option.some.inj H
   go_enter Tryz.func45, Tryz.ntmps45
   go_wp2
   go_ret
   exact ⟨by first | rfl | (simp; done) | (simp [*]; done), by repeat (first | exact Drawn0.refl _ | apply Drawn0.step)⟩
  ·rw [if_neg c3] at H
   have c3b0 : ((Int.tmod a0 100) == 0) = false := beq_eq_false_iff_ne.mpr c3
   have c3b1 : ((Int.tmod a0 100) != 0) = true := bne_iff_ne.mpr c3
   obtain rfl := Option.some.inj H
   go_enter Tryz.func45, Tryz.ntmps45
   go_wp2
   go_ret
   exact ⟨by first | rfl | (simp; done) | (simp [*]; done), by repeat (first | exact Drawn0.refl _ | apply Drawn0.step)⟩
 ·rw [if_neg c2] at H
  have c2b0 : ((Int.tmod a0 4) == 0) = false := beq_eq_false_iff_ne.mpr c2
  have c2b1 : ((Int.tmod a0 4) != 0) = true := bne_iff_ne.mpr c2
  obtain rfl := Option.some.inj H
  go_enter Tryz.func45, Tryz.ntmps45
  go_wp2
  go_ret
  exact ⟨by first | rfl | (simp; done) | (simp [*]; done), by repeat (first | exact Drawn0.refl _ | apply Drawn0.step)⟩
end Go.Proofs.YtemgofomhjabpaaGreatDoor.Core
namespace Go.Proofs.YtemgofomhjabpaaGreatDoor.Core
open Go.RowKit Go.Proofs.YtemgofomhjabpaaGreatDoorW.PrintWords Go.Proofs.YtemgofomhjabpaaGreatDoorW.PrintLast Go.Proofs.YtemgofomhjabpaaGreatDoorW.PrintMore
attribute [local go_sem] max2_int min2_int max_two min_two max_three min_three max_four min_four   -- for this text's walks alone
set_option linter.unusedVariables false
set_option linter.unusedSimpArgs false
def spec_Days.f (a0 : Int) (a1 : Int) : Option (Int) := if a1 = 2 then ((spec_Leap.f a0).bind fun t169 => (if t169 = true then (some 29) else (if 0 ≤ a1 then (if a1 < 13 then (some (rd [0, 31, 28, 31, 30, 31, 30, 31, 31, 30, 31, 30, 31] a1)) else (none)) else (none)))) else (if 0 ≤ a1 then (if a1 < 13 then (some (rd [0, 31, 28, 31, 30, 31, 30, 31, 31, 30, 31, 30, 31] a1)) else (none)) else (none))
set_option maxHeartbeats 8000000 in
set_option maxRecDepth 100000 in
theorem spec_Days.calls (a0 : Int) (a1 : Int) (r : Int) (w : World) (h : spec_Days.f a0 a1 = some r) :
  Calls Tryz.prog 37 #[.int .i64 a0, .int .i64 a1] w fun e w' => e = .returned (.int .i64 r) ∧ Drawn0 w w' := by
 have hu106 := Tryz.underlying106
 have H : (if a1 = 2 then ((spec_Leap.f a0).bind fun t169 => (if t169 = true then (some 29) else (if 0 ≤ a1 then (if a1 < 13 then (some (rd [0, 31, 28, 31, 30, 31, 30, 31, 31, 30, 31, 30, 31] a1)) else (none)) else (none)))) else (if 0 ≤ a1 then (if a1 < 13 then (some (rd [0, 31, 28, 31, 30, 31, 30, 31, 31, 30, 31, 30, 31] a1)) else (none)) else (none))) = some r := h
 clear h
 by_cases c3 : a1 = 2
 ·rw [if_pos c3] at H
  have c3b0 : (a1 == 2) = true := beq_iff_eq.mpr c3
  have c3b1 : (a1 != 2) = false := bne_eq_false_iff_eq.mpr c3
  clear c3
  replace H := Option.bind_eq_some_iff.mp H
  obtain ⟨t169, A40, H⟩ := H
  replace H : (if t169 = true then (some 29) else (if 0 ≤ a1 then (if a1 < 13 then (some (rd [0, 31, 28, 31, 30, 31, 30, 31, 31, 30, 31, 30, 31] a1)) else (none)) else (none))) = some r := H
  have A4 := Aside0.mk A40
  clear A40
  by_cases c5 : t169 = true
  ·subst c5
   have H1 : (some 29) = some r := by rw [if_pos rfl] at H; exact H
   clear H
   have H := H1
   clear H1
   obtain rfl := Option.some.inj H
   go_enter Tryz.func37, Tryz.ntmps37
   go_wp2_with (first | (go_at_call 45; (with_reducible refine (spec_Leap.calls a0 true _ A4.out).mono ?_); rintro e w' ⟨rfl, ⟨nd, rfl⟩⟩))
   go_ret
   exact ⟨by first | rfl | (simp; done) | (simp [*]; done), by repeat (first | exact Drawn0.refl _ | apply Drawn0.step)⟩
  ·replace c5 := Bool.eq_false_iff.mpr c5
   subst c5
   have H1 : (if 0 ≤ a1 then (if a1 < 13 then (some (rd [0, 31, 28, 31, 30, 31, 30, 31, 31, 30, 31, 30, 31] a1)) else (none)) else (none)) = some r := by rw [if_neg (show ¬ (false = true) by decide)] at H; exact H
   clear H
   have H := H1
   clear H1
   by_cases c6 : 0 ≤ a1
   ·rw [if_pos c6] at H
    have c6b0 : decide (0 ≤ a1) = true := decide_eq_true c6
    clear c6
    by_cases c7 : a1 < 13
    ·rw [if_pos c7] at H
     have c7b0 : decide (a1 < 13) = true := decide_eq_true c7
     clear c7
     have hixz170_ := fun w_ : World => (index_T106 0 31 28 31 30 31 30 31 31 30 31 30 31 a1 (of_decide_eq_true (by first | (with_reducible assumption) | assumption)) (of_decide_eq_true (by first | (with_reducible assumption) | assumption)) w_ : (Instr.index 106 (.agg #[.int .i64 0, .int .i64 31, .int .i64 28, .int .i64 31, .int .i64 30, .int .i64 31, .int .i64 30, .int .i64 31, .int .i64 31, .int .i64 30, .int .i64 31, .int .i64 30, .int .i64 31]) (.int .i64 a1)).run Tryz.prog w_ = .ok (.int .i64 (rd [0, 31, 28, 31, 30, 31, 30, 31, 31, 30, 31, 30, 31] a1)) w_)
     obtain rfl := Option.some.inj H
     go_enter Tryz.func37, Tryz.ntmps37
     go_wp2_with (first | (go_at_call 45; (with_reducible refine (spec_Leap.calls a0 false _ A4.out).mono ?_); rintro e w' ⟨rfl, ⟨nd, rfl⟩⟩))
     go_ret
     exact ⟨by first | rfl | (simp; done) | (simp [*]; done), by repeat (first | exact Drawn0.refl _ | apply Drawn0.step)⟩
    ·rw [if_neg c7] at H
     exact absurd H (by simp)
   ·rw [if_neg c6] at H
    exact absurd H (by simp)
 ·rw [if_neg c3] at H
  have c3b0 : (a1 == 2) = false := beq_eq_false_iff_ne.mpr c3
  have c3b1 : (a1 != 2) = true := bne_iff_ne.mpr c3
  by_cases c8 : 0 ≤ a1
  ·rw [if_pos c8] at H
   have c8b0 : decide (0 ≤ a1) = true := decide_eq_true c8
   clear c8
   by_cases c9 : a1 < 13
   ·rw [if_pos c9] at H
    have c9b0 : decide (a1 < 13) = true := decide_eq_true c9
    clear c9
    have hixz171_ := fun w_ : World => (index_T106 0 31 28 31 30 31 30 31 31 30 31 30 31 a1 (of_decide_eq_true (by first | (with_reducible assumption) | assumption)) (of_decide_eq_true (by first | (with_reducible assumption) | assumption)) w_ : (Instr.index 106 (.agg #[.int .i64 0, .int .i64 31, .int .i64 28, .int .i64 31, .int .i64 30, .int .i64 31, .int .i64 30, .int .i64 31, .int .i64 31, .int .i64 30, .int .i64 31, .int .i64 30, .int .i64 31]) (.int .i64 a1)).run Tryz.prog w_ = .ok (.int .i64 (rd [0, 31, 28, 31, 30, 31, 30, 31, 31, 30, 31, 30, 31] a1)) w_)
    obtain rfl := Option.some.inj H
    go_enter Tryz.func37, Tryz.ntmps37
    go_wp2
    go_ret
    exact ⟨by first | rfl | (simp; done) | (simp [*]; done), by repeat (first | exact Drawn0.refl _ | apply Drawn0.step)⟩
   ·rw [if_neg c9] at H
    exact absurd H (by simp)
  ·rw [if_neg c8] at H
   exact absurd H (by simp)
end Go.Proofs.YtemgofomhjabpaaGreatDoor.Core
namespace Go.Proofs.YtemgofomhjabpaaGreatDoor.Core
open Go.RowKit Go.Proofs.YtemgofomhjabpaaGreatDoorW.PrintWords Go.Proofs.YtemgofomhjabpaaGreatDoorW.PrintLast Go.Proofs.YtemgofomhjabpaaGreatDoorW.PrintMore
attribute [local go_sem] max2_int min2_int max_two min_two max_three min_three max_four min_four   -- for this text's walks alone
set_option linter.unusedVariables false
set_option linter.unusedSimpArgs false
def spec_Weekday.l0 : Nat → Int → Int → Int → Int → Option (Int)
 | 0, _, _, _, _ => none
 | k + 1, x0, x1, x8, x9 => if x9 < x1 then ((spec_Days.f x0 x9).bind fun t172 => (spec_Weekday.l0 k x0 x1 (wrap64 (x8 + t172)) (wrap64 (x9 + 1)))) else (some (Int.tmod x8 7))
def spec_Weekday.f (k : Nat) (a0 : Int) (a1 : Int) (a2 : Int) : Option (Int) := spec_Weekday.l0 k a0 a1 (wrap64 ((wrap64 ((wrap64 ((wrap64 ((wrap64 ((wrap64 (a0 - 1)) * 365)) + (wrap64 (Int.tdiv (wrap64 (a0 - 1)) 4)))) - (wrap64 (Int.tdiv (wrap64 (a0 - 1)) 100)))) + (wrap64 (Int.tdiv (wrap64 (a0 - 1)) 400)))) + a2)) 1
set_option maxHeartbeats 8000000 in
set_option maxRecDepth 100000 in
theorem spec_Weekday.calls (k : Nat) (a0 : Int) (a1 : Int) (a2 : Int) (r : Int) (w : World) (h : spec_Weekday.f k a0 a1 a2 = some r) :
  Calls Tryz.prog 38 #[.int .i64 a0, .int .i64 a1, .int .i64 a2] w fun e w' => e = .returned (.int .i64 r) ∧ Drawn0 w w' := by
 have H : (spec_Weekday.l0 k a0 a1 (wrap64 ((wrap64 ((wrap64 ((wrap64 ((wrap64 ((wrap64 (a0 - 1)) * 365)) + (wrap64 (Int.tdiv (wrap64 (a0 - 1)) 4)))) - (wrap64 (Int.tdiv (wrap64 (a0 - 1)) 100)))) + (wrap64 (Int.tdiv (wrap64 (a0 - 1)) 400)))) + a2)) 1) = some r := h
 clear h
 have H' := Aside0.mk H
 clear H
 go_enter Tryz.func38, Tryz.ntmps38
 go_wp2
 go_loopg [8, 9] k (fun kq v8 v9 w' => ∃ (x8_1 : Int) (x9_1 : Int), v8 = .int .i64 x8_1 ∧ v9 = .int .i64 x9_1 ∧ Aside0 (spec_Weekday.l0 kq a0 a1 x8_1 x9_1 = some r) ∧ Aside0 (kq ≤ k) ∧ Drawn0 w w')
 case atStart => exact ⟨(wrap64 ((wrap64 ((wrap64 ((wrap64 ((wrap64 ((wrap64 (a0 - 1)) * 365)) + (wrap64 (Int.tdiv (wrap64 (a0 - 1)) 4)))) - (wrap64 (Int.tdiv (wrap64 (a0 - 1)) 100)))) + (wrap64 (Int.tdiv (wrap64 (a0 - 1)) 400)))) + a2)), (1), (by first | rfl | (simp; done) | (simp [*]; done)), (by first | rfl | (simp; done) | (simp [*]; done)), H', ⟨Nat.le_refl _⟩, by repeat (first | exact Drawn0.refl _ | apply Drawn0.step)⟩
 case round =>
  clear H'
  try clear p2
  try clear c3
  obtain ⟨x8_1, x9_1, rfl, rfl, HA, HK1, ⟨m1, rfl⟩⟩ := hrel
  cases gk with
  | zero => exact absurd HA.out (by simp [spec_Weekday.l0])
  | succ k1 =>
   have H := HA.out
   clear HA
   simp only [spec_Weekday.l0] at H
   by_cases c4 : x9_1 < a1
   ·rw [if_pos c4] at H
    have c4b0 : decide (x9_1 < a1) = true := decide_eq_true c4
    clear c4
    replace H := Option.bind_eq_some_iff.mp H
    obtain ⟨t172, A50, H⟩ := H
    replace H : (spec_Weekday.l0 k1 a0 a1 (wrap64 (x8_1 + t172)) (wrap64 (x9_1 + 1))) = some r := H
    have A5 := Aside0.mk A50
    clear A50
    have H' := Aside0.mk H
    clear H
    go_wp2_with (first | ((with_reducible refine gate_callee (f := 37) rfl ?_); refine goesL_ (some 33) rfl rfl Tryz.func37 (by kernel_rfl) rfl #[.int .i64 a0, .int .i64 x9_1] rfl (by (try simp only [List.map_toArray, List.map_cons, List.map_nil]); first | done | rfl | (simp only [List.length_drop, List.length_take]; rfl)) ?_; (with_reducible refine (spec_Days.calls a0 x9_1 t172 _ A5.out).mono ?_); rintro e w' ⟨rfl, ⟨nd, rfl⟩⟩; refine ⟨_, rfl, ?_⟩))
    go_roundg k1
    case measure => have := HK1.out; omega
    case rel => exact ⟨(wrap64 (x8_1 + t172)), (wrap64 (x9_1 + 1)), (by first | rfl | (simp; done) | (simp [*]; done)), (by first | rfl | (simp; done) | (simp [*]; done)), H', ⟨by have := HK1.out; omega⟩, by repeat (first | exact Drawn0.refl _ | apply Drawn0.step)⟩
   ·rw [if_neg c4] at H
    have c4b0 : decide (x9_1 < a1) = false := decide_eq_false c4
    clear c4
    obtain rfl := Option.some.inj H
    go_wp2
    go_ret
    exact ⟨by first | rfl | (simp; done) | (simp [*]; done), by repeat (first | exact Drawn0.refl _ | apply Drawn0.step)⟩
end Go.Proofs.YtemgofomhjabpaaGreatDoor.Core
