/- Contracts and plain lemmas of this seat (part 2), merged by wip/merge2.py; what is proved stands in the claim's last text. -/
import Derived.Test.YtemgofomhjabpaaGreatDoorCBat1
import Derived.Test.YtemgofomhjabpaaGreatDoorProg
import Derived.Below
import Derived.Deep.Draws
import Derived.Deep.AppendLies
import Derived.Maps.AppendAt
import Derived.OwnWalk
import Derived.Laws.BytesArg
import Derived.Laws.MakeOwn
import Derived.Laws.OwnMore
import Derived.Deep.OwnRows
import Derived.Tactics
import Derived.Lib.ConvBytes
import Derived.Laws.Slices
import Derived.WalkKit
import Derived.KernelRfl
import Derived.RowKit3
import Derived.Deep.LoopGhost
import Derived.Deep.QuietTactic
import Derived.BigQuiet
import Derived.WideLaws
import Derived.Deep.DeepCutAuto
import Derived.Deep.CutBlock
import Derived.Deep.RegionHeld3
import Derived.Laws.Rows
import Derived.Lib.AppendStr
import Derived.ArgAppend
import Derived.Laws.IdiomCopy
import Derived.OrdersHeld
import Derived.Laws.BitsLemmas
import Derived.RowKit
import Derived.ChangeKeysEq
namespace Go.Proofs.YtemgofomhjabpaaGreatDoor.Core
open Go.RowKit Go.Proofs.YtemgofomhjabpaaGreatDoorW.PrintWords Go.Proofs.YtemgofomhjabpaaGreatDoorW.PrintLast Go.Proofs.YtemgofomhjabpaaGreatDoorW.PrintMore
attribute [local go_sem] max2_int min2_int max_two min_two max_three min_three max_four min_four   -- for this text's walks alone
set_option linter.unusedVariables false
set_option linter.unusedSimpArgs false
def errW : Option Int → Value
 | none => .nilIface
 | some c => .iface 0 (.int .i64 c)
theorem errW_none : errW none = .nilIface := rfl
theorem errW_some (c : Int) : errW (some c) = .iface 0 (.int .i64 c) := rfl
theorem info5 : (Tryz.prog.info? 5).map (fun i => (i.zero, i.size, i.bytes)) = some (some (.int .u8 0), 1, 1) := by kernel_rfl
theorem info9 : (Tryz.prog.info? 9).map (fun i => (i.zero, i.size, i.bytes)) = some (some (.string ⟨#[]⟩), 1, 16) := by kernel_rfl
theorem info30 : (Tryz.prog.info? 30).map (fun i => (i.zero, i.size, i.bytes)) = some (some (.agg #[(.slice none 0 0), (.bool false)]), 2, 32) := by kernel_rfl
theorem info36 : (Tryz.prog.info? 36).map (fun i => (i.zero, i.size, i.bytes)) = some (some (.slice none 0 0), 1, 24) := by kernel_rfl
theorem info38 : (Tryz.prog.info? 38).map (fun i => (i.zero, i.size, i.bytes)) = some (some (.agg #[(.bool false), (.int .i64 0), (.int .i64 0), (.int .i64 0)]), 4, 32) := by kernel_rfl
structure S69 where
 f0 : Bool
 f1 : Int
 f2 : Int
 f3 : Int
def z69 : S69 := ⟨false, (0 : Int), (0 : Int), (0 : Int)⟩
def k69 : Kd S69 := Kd.iso (Kd.pair Kd.bool (Kd.pair (Kd.int .i64) (Kd.pair (Kd.int .i64) (Kd.int .i64)))) (fun x : S69 => (x.f0, x.f1, x.f2, x.f3))
theorem k69_open {w : World} {x : S69} {cs : List Value} (h : k69.K w x cs) : cs = [.bool x.f0, .int .i64 x.f1, .int .i64 x.f2, .int .i64 x.f3] := by
 obtain ⟨_, _, rfl, rfl, ⟨_, _, rfl, rfl, ⟨_, _, rfl, rfl, rfl⟩⟩⟩ := h
 exact rfl
theorem k69_mk (w : World) (x : S69)  : k69.K w x [.bool x.f0, .int .i64 x.f1, .int .i64 x.f2, .int .i64 x.f3] := ⟨[.bool x.f0], [.int .i64 x.f1, .int .i64 x.f2, .int .i64 x.f3], rfl, rfl, ⟨[.int .i64 x.f1], [.int .i64 x.f2, .int .i64 x.f3], rfl, rfl, ⟨[.int .i64 x.f2], [.int .i64 x.f3], rfl, rfl, rfl⟩⟩⟩
def rd_T69 (xs : List S69) (i : Int) : S69 := xs.getD i.toNat z69
theorem at_T69 {w : World} {A : Option Addr} {n : Nat} {xs : List S69} (h : Kd.C k69 w A n xs) (i : Int) (h0 : 0 ≤ i) (h1 : i < n) : ∃ ad , A = some ad ∧ w.cell? (ad.add (i.toNat * 4)) = some (.bool (rd_T69 xs i).f0) ∧ w.cell? ⟨(ad.add (i.toNat * 4)).block, (ad.add (i.toNat * 4)).off + 1, none⟩ = some (.int .i64 (rd_T69 xs i).f1) ∧ w.cell? ⟨(ad.add (i.toNat * 4)).block, (ad.add (i.toNat * 4)).off + 2, none⟩ = some (.int .i64 (rd_T69 xs i).f2) ∧ w.cell? ⟨(ad.add (i.toNat * 4)).block, (ad.add (i.toNat * 4)).off + 3, none⟩ = some (.int .i64 (rd_T69 xs i).f3) := by
 obtain ⟨ad, c, e, _, hK, hc0⟩ := Kd.C_get h z69 i h0 h1
 have hc : ∀ j u, c[j]? = some u → w.cell? (ad.add (i.toNat * 4 + j)) = some u := hc0
 obtain rfl := k69_open hK
 exact ⟨ad, e, hc 0 _ rfl, by rw [← add_field _ _ 1 (by omega)]; exact hc 1 _ rfl, by rw [← add_field _ _ 2 (by omega)]; exact hc 2 _ rfl, by rw [← add_field _ _ 3 (by omega)]; exact hc 3 _ rfl⟩
def rd_L3 (xs : List (List S69)) (i : Int) : (List S69) := xs.getD i.toNat ([] : List S69)
theorem at_L3 {w : World} {A : Option Addr} {n : Nat} {xs : List (List S69)} (h : Kd.C (Kd.slice 69 k69) w A n xs) (i : Int) (h0 : 0 ≤ i) (h1 : i < n) : ∃ ad A0 c0, A = some ad ∧ w.cell? (ad.add i.toNat) = some (.slice A0 (rd_L3 xs i).length c0) ∧ (rd_L3 xs i).length ≤ c0 ∧ k69.C w A0 (rd_L3 xs i).length (rd_L3 xs i) := by
 obtain ⟨ad, c, e, _, hK, hc0⟩ := Kd.C_get h ([] : List S69) i h0 h1
 have hc : ∀ j u, c[j]? = some u → w.cell? (ad.add (i.toNat * 1 + j)) = some u := hc0
 obtain ⟨A0, c0, rfl, l0, g0⟩ := hK
 exact ⟨ad, A0, c0, e, by have hq := hc 0 _ rfl; rwa [Nat.mul_one, Nat.add_zero] at hq, l0, g0⟩
structure S38 where
 f0 : Bool
 f1 : Int
 f2 : Int
 f3 : Int
def z38 : S38 := ⟨false, (0 : Int), (0 : Int), (0 : Int)⟩
def k38 : Kd S38 := Kd.iso (Kd.pair Kd.bool (Kd.pair (Kd.int .i64) (Kd.pair (Kd.int .i64) (Kd.int .i64)))) (fun x : S38 => (x.f0, x.f1, x.f2, x.f3))
theorem k38_open {w : World} {x : S38} {cs : List Value} (h : k38.K w x cs) : cs = [.bool x.f0, .int .i64 x.f1, .int .i64 x.f2, .int .i64 x.f3] := by
 obtain ⟨_, _, rfl, rfl, ⟨_, _, rfl, rfl, ⟨_, _, rfl, rfl, rfl⟩⟩⟩ := h
 exact rfl
theorem k38_mkM (w : World) (base : Nat) (ok : Nat → Prop) (x : S38)  : k38.M w base ok x [.bool x.f0, .int .i64 x.f1, .int .i64 x.f2, .int .i64 x.f3] := ⟨[.bool x.f0], [.int .i64 x.f1, .int .i64 x.f2, .int .i64 x.f3], rfl, rfl, ⟨[.int .i64 x.f1], [.int .i64 x.f2, .int .i64 x.f3], rfl, rfl, ⟨[.int .i64 x.f2], [.int .i64 x.f3], rfl, rfl, rfl⟩⟩⟩
def rd_T38 (xs : List S38) (i : Int) : S38 := xs.getD i.toNat z38
theorem at_T38 {w : World} {A : Option Addr} {n : Nat} {xs : List S38} (h : Kd.C k38 w A n xs) (i : Int) (h0 : 0 ≤ i) (h1 : i < n) : ∃ ad , A = some ad ∧ w.cell? (ad.add (i.toNat * 4)) = some (.bool (rd_T38 xs i).f0) ∧ w.cell? ⟨(ad.add (i.toNat * 4)).block, (ad.add (i.toNat * 4)).off + 1, none⟩ = some (.int .i64 (rd_T38 xs i).f1) ∧ w.cell? ⟨(ad.add (i.toNat * 4)).block, (ad.add (i.toNat * 4)).off + 2, none⟩ = some (.int .i64 (rd_T38 xs i).f2) ∧ w.cell? ⟨(ad.add (i.toNat * 4)).block, (ad.add (i.toNat * 4)).off + 3, none⟩ = some (.int .i64 (rd_T38 xs i).f3) := by
 obtain ⟨ad, c, e, _, hK, hc0⟩ := Kd.C_get h z38 i h0 h1
 have hc : ∀ j u, c[j]? = some u → w.cell? (ad.add (i.toNat * 4 + j)) = some u := hc0
 obtain rfl := k38_open hK
 exact ⟨ad, e, hc 0 _ rfl, by rw [← add_field _ _ 1 (by omega)]; exact hc 1 _ rfl, by rw [← add_field _ _ 2 (by omega)]; exact hc 2 _ rfl, by rw [← add_field _ _ 3 (by omega)]; exact hc 3 _ rfl⟩
def rd_L5 (xs : List (List S38)) (i : Int) : (List S38) := xs.getD i.toNat ([] : List S38)
theorem at_L5 {w : World} {A : Option Addr} {n : Nat} {xs : List (List S38)} (h : Kd.C (Kd.slice 38 k38) w A n xs) (i : Int) (h0 : 0 ≤ i) (h1 : i < n) : ∃ ad A0 c0, A = some ad ∧ w.cell? (ad.add i.toNat) = some (.slice A0 (rd_L5 xs i).length c0) ∧ (rd_L5 xs i).length ≤ c0 ∧ k38.C w A0 (rd_L5 xs i).length (rd_L5 xs i) := by
 obtain ⟨ad, c, e, _, hK, hc0⟩ := Kd.C_get h ([] : List S38) i h0 h1
 have hc : ∀ j u, c[j]? = some u → w.cell? (ad.add (i.toNat * 1 + j)) = some u := hc0
 obtain ⟨A0, c0, rfl, l0, g0⟩ := hK
 exact ⟨ad, A0, c0, e, by have hq := hc 0 _ rfl; rwa [Nat.mul_one, Nat.add_zero] at hq, l0, g0⟩
structure S43 where
 f0 : Int
 f1 : Int
 f2 : Int
 f3 : Int
 f4 : Int
 f5 : Int
structure S26 where
 f0 : Int
 f1 : Int
 f2 : Int
 f3 : Int
 f4 : Int
 f5 : Int
structure S24 where
 f0 : (List (List S69))
 f1 : Bool
def z24 : S24 := ⟨([] : List (List S69)), false⟩
def k24 : Kd S24 := Kd.iso (Kd.pair (Kd.slice 68 (Kd.slice 69 k69)) Kd.bool) (fun x : S24 => (x.f0, x.f1))
theorem k24_open {w : World} {x : S24} {cs : List Value} (h : k24.K w x cs) : ∃ A0 c0, cs = [.slice A0 x.f0.length c0, .bool x.f1] ∧ x.f0.length ≤ c0 ∧ (Kd.slice 69 k69).C w A0 x.f0.length x.f0 := by
 obtain ⟨_, _, rfl, ⟨A0, c0, rfl, l0, g0⟩, rfl⟩ := h
 exact ⟨A0, c0, rfl, l0, g0⟩
theorem k24_mk (w : World) (x : S24) {A0 : Option Addr} {c0 : Nat} (l0 : x.f0.length ≤ c0) (g0 : (Kd.slice 69 k69).C w A0 x.f0.length x.f0) : k24.K w x [.slice A0 x.f0.length c0, .bool x.f1] := ⟨[.slice A0 x.f0.length c0], [.bool x.f1], rfl, ⟨A0, c0, rfl, l0, g0⟩, rfl⟩
def rd_T24 (xs : List S24) (i : Int) : S24 := xs.getD i.toNat z24
theorem at_T24 {w : World} {A : Option Addr} {n : Nat} {xs : List S24} (h : Kd.C k24 w A n xs) (i : Int) (h0 : 0 ≤ i) (h1 : i < n) : ∃ ad A0 c0, A = some ad ∧ w.cell? (ad.add (i.toNat * 2)) = some (.slice A0 (rd_T24 xs i).f0.length c0) ∧ w.cell? ⟨(ad.add (i.toNat * 2)).block, (ad.add (i.toNat * 2)).off + 1, none⟩ = some (.bool (rd_T24 xs i).f1) ∧ (rd_T24 xs i).f0.length ≤ c0 ∧ (Kd.slice 69 k69).C w A0 (rd_T24 xs i).f0.length (rd_T24 xs i).f0 := by
 obtain ⟨ad, c, e, _, hK, hc0⟩ := Kd.C_get h z24 i h0 h1
 have hc : ∀ j u, c[j]? = some u → w.cell? (ad.add (i.toNat * 2 + j)) = some u := hc0
 obtain ⟨A0, c0, rfl, l0, g0⟩ := k24_open hK
 exact ⟨ad, A0, c0, e, hc 0 _ rfl, by rw [← add_field _ _ 1 (by omega)]; exact hc 1 _ rfl, l0, g0⟩
structure S30 where
 f0 : (List (List S38))
 f1 : Bool
def z30 : S30 := ⟨([] : List (List S38)), false⟩
def k30 : Kd S30 := Kd.iso (Kd.pair (Kd.slice 36 (Kd.slice 38 k38)) Kd.bool) (fun x : S30 => (x.f0, x.f1))
theorem k30_open {w : World} {x : S30} {cs : List Value} (h : k30.K w x cs) : ∃ A0 c0, cs = [.slice A0 x.f0.length c0, .bool x.f1] ∧ x.f0.length ≤ c0 ∧ (Kd.slice 38 k38).C w A0 x.f0.length x.f0 := by
 obtain ⟨_, _, rfl, ⟨A0, c0, rfl, l0, g0⟩, rfl⟩ := h
 exact ⟨A0, c0, rfl, l0, g0⟩
theorem k30_openM {w : World} {base : Nat} {ok : Nat → Prop} {x : S30} {cs : List Value} (h : k30.M w base ok x cs) : ∃ v0, cs = [v0, .bool x.f1] ∧ (Kd.slice 38 k38).R 36 w base ok v0 x.f0 := by
 obtain ⟨_, _, rfl, ⟨v0, rfl, g0⟩, rfl⟩ := h
 exact ⟨v0, rfl, g0⟩
theorem k30_mkM (w : World) (base : Nat) (ok : Nat → Prop) (x : S30) {v0 : Value} (g0 : (Kd.slice 38 k38).R 36 w base ok v0 x.f0) : k30.M w base ok x [v0, .bool x.f1] := ⟨[v0], [.bool x.f1], rfl, ⟨v0, rfl, g0⟩, rfl⟩
def rd_T30 (xs : List S30) (i : Int) : S30 := xs.getD i.toNat z30
theorem at_T30 {w : World} {A : Option Addr} {n : Nat} {xs : List S30} (h : Kd.C k30 w A n xs) (i : Int) (h0 : 0 ≤ i) (h1 : i < n) : ∃ ad A0 c0, A = some ad ∧ w.cell? (ad.add (i.toNat * 2)) = some (.slice A0 (rd_T30 xs i).f0.length c0) ∧ w.cell? ⟨(ad.add (i.toNat * 2)).block, (ad.add (i.toNat * 2)).off + 1, none⟩ = some (.bool (rd_T30 xs i).f1) ∧ (rd_T30 xs i).f0.length ≤ c0 ∧ (Kd.slice 38 k38).C w A0 (rd_T30 xs i).f0.length (rd_T30 xs i).f0 := by
 obtain ⟨ad, c, e, _, hK, hc0⟩ := Kd.C_get h z30 i h0 h1
 have hc : ∀ j u, c[j]? = some u → w.cell? (ad.add (i.toNat * 2 + j)) = some u := hc0
 obtain ⟨A0, c0, rfl, l0, g0⟩ := k30_open hK
 exact ⟨ad, A0, c0, e, hc 0 _ rfl, by rw [← add_field _ _ 1 (by omega)]; exact hc 1 _ rfl, l0, g0⟩
def errors_New.f (_a0 : ByteArray) : Option (Option Int) := none
theorem errors_New.calls (a0 : ByteArray) (r : Option Int) (w : World) (h : errors_New.f a0 = some r) :
  Calls Tryz.prog 47 #[.string a0] w fun e w' => e = .returned (errW r) ∧ Below w.heap.size w w' := by cases h
theorem index_arr {P : Program} (t e : TypeId) (n : Nat) (k : IntKind) (l : List Int) (j : Int) (h : P.underlying t = some (.array n e)) (he : P.plainKey e = true) (hz : ∀ w, (sizeOf e).run P w = .ok 1 w) (hl : l.length = n) (h0 : 0 ≤ j) (h1 : j < n) (w : World) :
  (Instr.index t (.agg (l.map fun x => Value.int k x).toArray) (.int .i64 j)).run P w = .ok (.int k (rd l j)) w := by
 have hx : ((l.map fun x => Value.int k x).toArray)[j.toNat * 1]? = some (.int k (rd l j)) := by
  have : j.toNat < l.length := by omega
  simp [rd, this]
 have hp := run_part_plain (w := w) he hx
 have e1 : (Instr.index t (.agg (l.map fun x => Value.int k x).toArray) (.int .i64 j)).run P w = (part e (l.map fun x => Value.int k x).toArray (j.toNat * 1)).run P w := by
  simp [Instr.index, run_underlying h, asIntOf, h0, h1, hz, go_sem]
 rw [e1]
 exact hp
theorem index_T50 (x0 x1 x2 x3 x4 x5 j : Int) (h0 : 0 ≤ j) (h1 : j < 6) (w : World) : (Instr.index 50 (.agg #[.int .i64 x0, .int .i64 x1, .int .i64 x2, .int .i64 x3, .int .i64 x4, .int .i64 x5]) (.int .i64 j)).run Tryz.prog w = .ok (.int .i64 (rd [x0, x1, x2, x3, x4, x5] j)) w :=
 index_arr 50 3 6 .i64 [x0, x1, x2, x3, x4, x5] j Tryz.underlying50 (by kernel_rfl) (fun w => by simp [Tryz.sizeOf3]) rfl h0 h1 w
theorem index_T106 (x0 x1 x2 x3 x4 x5 x6 x7 x8 x9 x10 x11 x12 j : Int) (h0 : 0 ≤ j) (h1 : j < 13) (w : World) : (Instr.index 106 (.agg #[.int .i64 x0, .int .i64 x1, .int .i64 x2, .int .i64 x3, .int .i64 x4, .int .i64 x5, .int .i64 x6, .int .i64 x7, .int .i64 x8, .int .i64 x9, .int .i64 x10, .int .i64 x11, .int .i64 x12]) (.int .i64 j)).run Tryz.prog w = .ok (.int .i64 (rd [x0, x1, x2, x3, x4, x5, x6, x7, x8, x9, x10, x11, x12] j)) w :=
 index_arr 106 3 13 .i64 [x0, x1, x2, x3, x4, x5, x6, x7, x8, x9, x10, x11, x12] j Tryz.underlying106 (by kernel_rfl) (fun w => by simp [Tryz.sizeOf3]) rfl h0 h1 w
theorem eqA38 (d : Nat) (w : World) (x0 y0 : Bool) (x1 y1 : Int) (x2 y2 : Int) (x3 y3 : Int) :
  (Op.equalIn (d + 2) 38 (.agg #[.bool x0, .int .i64 x1, .int .i64 x2, .int .i64 x3]) (.agg #[.bool y0, .int .i64 y1, .int .i64 y2, .int .i64 y3])).run Tryz.prog w = .ok (x0 == y0 && (x1 == y1 && (x2 == y2 && (x3 == y3)))) w := by
 refine eqA_of Tryz.underlying38 (by kernel_rfl) ?_
 refine eqf_cons (by rfl) (by go_simp; rfl) (by go_simp; rfl) (by go_simp) ?_
 refine eqf_cons (by rfl) (by go_simp; rfl) (by go_simp; rfl) (by go_simp) ?_
 refine eqf_cons (by rfl) (by go_simp; rfl) (by go_simp; rfl) (by go_simp) ?_
 exact eqf_last (by rfl) (by go_simp; rfl) (by go_simp; rfl) (by go_simp)
def spec_Low.f (a0 : Int) : Option (Int) := if a0 = 3 then (some 1) else (if a0 = 4 then (some 1) else (some 0))
set_option maxHeartbeats 8000000 in
set_option maxRecDepth 100000 in
theorem spec_Low.calls (a0 : Int) (r : Int) (w : World) (h : spec_Low.f a0 = some r) :
  Calls Tryz.prog 20 #[.int .i64 a0] w fun e w' => e = .returned (.int .i64 r) ∧ Drawn0 w w' := by
 have H : (if a0 = 3 then (some 1) else (if a0 = 4 then (some 1) else (some 0))) = some r := h
 clear h
 by_cases c2 : a0 = 3
 ·rw [if_pos c2] at H
  have c2b0 : (a0 == 3) = true := beq_iff_eq.mpr c2
  have c2b1 : (a0 != 3) = false := bne_eq_false_iff_eq.mpr c2
  clear c2
  obtain rfl := Option.some.inj H
  go_enter Tryz.func20, Tryz.ntmps20
  go_wp2
  go_ret
  exact ⟨by first | rfl | (simp; done) | (simp [*]; done), by repeat (first | exact Drawn0.refl _ | apply Drawn0.step)⟩
 ·rw [if_neg c2] at H
  have c2b0 : (a0 == 3) = false := beq_eq_false_iff_ne.mpr c2
  have c2b1 : (a0 != 3) = true := bne_iff_ne.mpr c2
  by_cases c3 : a0 = 4
  ·rw [if_pos c3] at H
   have c3b0 : (a0 == 4) = true := beq_iff_eq.mpr c3
   have c3b1 : (a0 != 4) = false := bne_eq_false_iff_eq.mpr c3
   clear c3
   obtain rfl := Option.some.inj H
   go_enter Tryz.func20, Tryz.ntmps20
   go_wp2
   go_ret
   exact ⟨by first | rfl | (simp; done) | (simp [*]; done), by repeat (first | exact Drawn0.refl _ | apply Drawn0.step)⟩
  ·rw [if_neg c3] at H
   have c3b0 : (a0 == 4) = false := beq_eq_false_iff_ne.mpr c3
   have c3b1 : (a0 != 4) = true := bne_iff_ne.mpr c3
   obtain rfl := Option.some.inj H
   go_enter Tryz.func20, Tryz.ntmps20
   go_wp2
   go_ret
   exact ⟨by first | rfl | (simp; done) | (simp [*]; done), by repeat (first | exact Drawn0.refl _ | apply Drawn0.step)⟩
def spec_High.f (a0 : Int) : Option (Int) := if 0 ≤ a0 then (if a0 < 6 then (some (rd [59, 59, 23, 31, 12, 6] a0)) else (none)) else (none)
set_option maxHeartbeats 8000000 in
set_option maxRecDepth 100000 in
theorem spec_High.calls (a0 : Int) (r : Int) (w : World) (h : spec_High.f a0 = some r) :
  Calls Tryz.prog 21 #[.int .i64 a0] w fun e w' => e = .returned (.int .i64 r) ∧ Drawn0 w w' := by
 have hu50 := Tryz.underlying50
 have H : (if 0 ≤ a0 then (if a0 < 6 then (some (rd [59, 59, 23, 31, 12, 6] a0)) else (none)) else (none)) = some r := h
 clear h
 by_cases c2 : 0 ≤ a0
 ·rw [if_pos c2] at H
  have c2b0 : decide (0 ≤ a0) = true := decide_eq_true c2
  clear c2
  by_cases c3 : a0 < 6
  ·rw [if_pos c3] at H
   have c3b0 : decide (a0 < 6) = true := decide_eq_true c3
   clear c3
   have hixz123_ := fun w_ : World => (index_T50 59 59 23 31 12 6 a0 (of_decide_eq_true (by first | (with_reducible assumption) | assumption)) (of_decide_eq_true (by first | (with_reducible assumption) | assumption)) w_ : (Instr.index 50 (.agg #[.int .i64 59, .int .i64 59, .int .i64 23, .int .i64 31, .int .i64 12, .int .i64 6]) (.int .i64 a0)).run Tryz.prog w_ = .ok (.int .i64 (rd [59, 59, 23, 31, 12, 6] a0)) w_)
   obtain rfl := Option.some.inj H
   go_enter Tryz.func21, Tryz.ntmps21
   go_wp2
   go_ret
   exact ⟨by first | rfl | (simp; done) | (simp [*]; done), by repeat (first | exact Drawn0.refl _ | apply Drawn0.step)⟩
  ·rw [if_neg c3] at H
   exact absurd H (by simp)
 ·rw [if_neg c2] at H
  exact absurd H (by simp)
mutual
def spec_Good.l0 : Nat → Int → List (S38) → List (S38) → Int → Int → Option (Bool)
 | 0, _, _, _, _, _ => none
 | k + 1, x0, x1, x7, x8, x9 => if x9 < x8 then (if 0 ≤ x9 then (if x9 < (x7.length : Int) then (if ((rd_T38 x7 x9).f3) < 1 then (spec_Good.j1 k x0 x1 x7 x8 x9 true ((rd_T38 x7 x9).f0) ((rd_T38 x7 x9).f1) ((rd_T38 x7 x9).f2) ((rd_T38 x7 x9).f3)) else (spec_Good.j1 k x0 x1 x7 x8 x9 (decide (((rd_T38 x7 x9).f3) > 60)) ((rd_T38 x7 x9).f0) ((rd_T38 x7 x9).f1) ((rd_T38 x7 x9).f2) ((rd_T38 x7 x9).f3))) else (none)) else (none)) else (if (x1.length : Int) ≥ 1 then (some (decide ((x1.length : Int) ≤ 6))) else (some false))
def spec_Good.j1 : Nat → Int → List (S38) → List (S38) → Int → Int → Bool → Bool → Int → Int → Int → Option (Bool)
 | 0, _, _, _, _, _, _, _, _, _, _ => none
 | k + 1, x0, x1, x7, x8, x9, x20, x126000, x126001, x126002, x126003 => if x20 = true then (some false) else (if x126000 = true then (spec_Good.l0 k x0 x1 x7 x8 (wrap64 (x9 + 1))) else ((spec_Low.f x0).bind fun t126 => (if x126001 < t126 then (some false) else ((spec_High.f x0).bind fun t127 => (if x126002 > t127 then (some false) else (if x126001 > x126002 then (some false) else (spec_Good.l0 k x0 x1 x7 x8 (wrap64 (x9 + 1)))))))))
end
def spec_Good.f (k : Nat) (a0 : Int) (l1 : List (S38)) : Option (Bool) := spec_Good.l0 k a0 l1 l1 (l1.length : Int) 0
set_option maxHeartbeats 8000000 in
set_option maxRecDepth 100000 in
theorem spec_Good.calls (k : Nat) (a0 : Int) (A1 : Option Addr) (c1 : Nat) (l1 : List (S38)) (r : Bool) (w : World) (hr1 : Kd.C k38 w A1 l1.length l1) (hc1 : l1.length ≤ c1) (h : spec_Good.f k a0 l1 = some r) :
  Calls Tryz.prog 40 #[.int .i64 a0, .slice A1 l1.length c1] w fun e w' => e = .returned (.bool r) ∧ Below w.heap.size w w' := by
 have hu38 := Tryz.underlying38
 have HR1 := Aside0.mk hr1
 have HC1 := Aside0.mk hc1
 clear hr1 hc1
 have HB := Aside0.mk (Below.refl w.heap.size w)
 have H : (spec_Good.l0 k a0 l1 l1 (l1.length : Int) 0) = some r := h
 clear h
 have H' := Aside0.mk H
 clear H
 go_enter Tryz.func40, Tryz.ntmps40
 go_wp2
 repeat (go_quiet (fail); try go_wp2)
 go_loopg [9] k (fun kq v9 w' => ∃ (x9_1 : Int), v9 = .int .i64 x9_1 ∧ Aside0 (spec_Good.l0 kq a0 l1 l1 (l1.length : Int) x9_1 = some r) ∧ Aside0 (kq ≤ k) ∧ Aside0 (Below w.heap.size w w'))
 case atStart => exact ⟨(0), (by first | rfl | (simp; done) | (simp [*]; done)), H', ⟨Nat.le_refl _⟩, ⟨by repeat (first | (with_reducible first | exact HB.out | apply below_alloc | apply pw_below_drewN | apply below_drew1) | exact HB.out)⟩⟩
 case round =>
  clear H'
  obtain ⟨x9_1, rfl, HA, HK1, HB⟩ := hrel
  cases gk with
  | zero => exact absurd HA.out (by simp [spec_Good.l0])
  | succ k1 =>
   have H := HA.out
   clear HA
   simp only [spec_Good.l0] at H
   by_cases c3 : x9_1 < (l1.length : Int)
   ·rw [if_pos c3] at H
    have c3b0 : decide (x9_1 < (l1.length : Int)) = true := decide_eq_true c3
    clear c3
    by_cases c4 : 0 ≤ x9_1
    ·rw [if_pos c4] at H
     have c4b0 : decide (0 ≤ x9_1) = true := decide_eq_true c4
     clear c4
     by_cases c5 : x9_1 < (l1.length : Int)
     ·rw [if_pos c5] at H
      have c5b0 : decide (x9_1 < (l1.length : Int)) = true := decide_eq_true c5
      clear c5
      have HC6 := Aside0.mk H
      clear H
      have p124 : 0 ≤ (x9_1 : Int) := of_decide_eq_true (by first | (with_reducible assumption) | assumption)
      have q124 : x9_1 < (l1.length : Int) := of_decide_eq_true (by first | (with_reducible assumption) | assumption)
      obtain ⟨ad124, e124, hx124_0, hx124_1, hx124_2, hx124_3⟩ := at_T38 HR1.out x9_1 p124 q124
      cases e124
      replace hx124_0 := (HB.out.cell (World.block_lt_of_cell? w _ hx124_0)).trans hx124_0
      replace hx124_1 := (HB.out.cell (World.block_lt_of_cell? w _ hx124_1)).trans hx124_1
      replace hx124_2 := (HB.out.cell (World.block_lt_of_cell? w _ hx124_2)).trans hx124_2
      replace hx124_3 := (HB.out.cell (World.block_lt_of_cell? w _ hx124_3)).trans hx124_3
      replace p124 := eq_true p124
      replace q124 := eq_true q124
      go_upto_region 4 with (first | ((with_reducible refine gate_dst (N := 6) rfl ?_); (try (refine gate_guard (by rfl) ?_; dsimp only)); refine box_event ?hg (N := 6) ?hd (cs := #[.bool false, .int .i64 0, .int .i64 0, .int .i64 0]) (t := 38) ?hr ?_; (case hd => rfl); (case hg => rfl); (case hr => first | (go_simp; done) | (go_simp; rfl)); intro gb125 hg w7 hbox hb; have n0_ := Aside0.mk (below_step (by repeat (first | (with_reducible first | exact HB.out | apply below_alloc | apply pw_below_drewN | apply below_drew1) | exact HB.out)) hb); have n1_ := Aside0.mk (hbox); have n2_ := Aside0.mk ((by rw [hg]; exact (below_size (by repeat (first | (with_reducible first | exact HB.out | apply below_alloc | apply pw_below_drewN | apply below_drew1) | exact HB.out))) : w.heap.size ≤ gb125)); have n3_ := Aside0.mk ((by rw [hg]; exact (below_size (by repeat (first | (with_reducible first | exact HB.out | apply below_alloc | apply pw_below_drewN | apply below_drew1) | exact HB.out))) : w.heap.size ≤ gb125)); clear HB; have HB := n0_; have BK125 := n1_; have GW125 := n2_; have GE125 := n3_; clear n0_ n1_ n2_ n3_; clear hb hbox hg; have hcz8_0 : w7.cell? ⟨gb125, 0, none⟩ = some (.bool false) := (blk_cell BK125.out 0).trans rfl; have hcz8_1 : w7.cell? ⟨gb125, 1, none⟩ = some (.int .i64 0) := (blk_cell BK125.out 1).trans rfl; have hcz8_2 : w7.cell? ⟨gb125, 2, none⟩ = some (.int .i64 0) := (blk_cell BK125.out 2).trans rfl; have hcz8_3 : w7.cell? ⟨gb125, 3, none⟩ = some (.int .i64 0) := (blk_cell BK125.out 3).trans rfl; have hfz8_0 := blk_frozen BK125.out 0; have hfz8_1 := blk_frozen BK125.out 1; have hfz8_2 := blk_frozen BK125.out 2; have hfz8_3 := blk_frozen BK125.out 3))
      repeat (go_quiet (first | ((with_reducible refine gate_dst (N := 6) rfl ?_); (try (refine gate_guard (by rfl) ?_; dsimp only)); refine box_event ?hg (N := 6) ?hd (cs := #[.bool false, .int .i64 0, .int .i64 0, .int .i64 0]) (t := 38) ?hr ?_; (case hd => rfl); (case hg => rfl); (case hr => first | (go_simp; done) | (go_simp; rfl)); intro gb125 hg w7 hbox hb; have n0_ := Aside0.mk (below_step (by repeat (first | (with_reducible first | exact HB.out | apply below_alloc | apply pw_below_drewN | apply below_drew1) | exact HB.out)) hb); have n1_ := Aside0.mk (hbox); have n2_ := Aside0.mk ((by rw [hg]; exact (below_size (by repeat (first | (with_reducible first | exact HB.out | apply below_alloc | apply pw_below_drewN | apply below_drew1) | exact HB.out))) : w.heap.size ≤ gb125)); have n3_ := Aside0.mk ((by rw [hg]; exact (below_size (by repeat (first | (with_reducible first | exact HB.out | apply below_alloc | apply pw_below_drewN | apply below_drew1) | exact HB.out))) : w.heap.size ≤ gb125)); clear HB; have HB := n0_; have BK125 := n1_; have GW125 := n2_; have GE125 := n3_; clear n0_ n1_ n2_ n3_; clear hb hbox hg; have hcz8_0 : w7.cell? ⟨gb125, 0, none⟩ = some (.bool false) := (blk_cell BK125.out 0).trans rfl; have hcz8_1 : w7.cell? ⟨gb125, 1, none⟩ = some (.int .i64 0) := (blk_cell BK125.out 1).trans rfl; have hcz8_2 : w7.cell? ⟨gb125, 2, none⟩ = some (.int .i64 0) := (blk_cell BK125.out 2).trans rfl; have hcz8_3 : w7.cell? ⟨gb125, 3, none⟩ = some (.int .i64 0) := (blk_cell BK125.out 3).trans rfl; have hfz8_0 := blk_frozen BK125.out 0; have hfz8_1 := blk_frozen BK125.out 1; have hfz8_2 := blk_frozen BK125.out 2; have hfz8_3 := blk_frozen BK125.out 3)); go_upto_region 4 with (first | ((with_reducible refine gate_dst (N := 6) rfl ?_); (try (refine gate_guard (by rfl) ?_; dsimp only)); refine box_event ?hg (N := 6) ?hd (cs := #[.bool false, .int .i64 0, .int .i64 0, .int .i64 0]) (t := 38) ?hr ?_; (case hd => rfl); (case hg => rfl); (case hr => first | (go_simp; done) | (go_simp; rfl)); intro gb125 hg w7 hbox hb; have n0_ := Aside0.mk (below_step (by repeat (first | (with_reducible first | exact HB.out | apply below_alloc | apply pw_below_drewN | apply below_drew1) | exact HB.out)) hb); have n1_ := Aside0.mk (hbox); have n2_ := Aside0.mk ((by rw [hg]; exact (below_size (by repeat (first | (with_reducible first | exact HB.out | apply below_alloc | apply pw_below_drewN | apply below_drew1) | exact HB.out))) : w.heap.size ≤ gb125)); have n3_ := Aside0.mk ((by rw [hg]; exact (below_size (by repeat (first | (with_reducible first | exact HB.out | apply below_alloc | apply pw_below_drewN | apply below_drew1) | exact HB.out))) : w.heap.size ≤ gb125)); clear HB; have HB := n0_; have BK125 := n1_; have GW125 := n2_; have GE125 := n3_; clear n0_ n1_ n2_ n3_; clear hb hbox hg; have hcz8_0 : w7.cell? ⟨gb125, 0, none⟩ = some (.bool false) := (blk_cell BK125.out 0).trans rfl; have hcz8_1 : w7.cell? ⟨gb125, 1, none⟩ = some (.int .i64 0) := (blk_cell BK125.out 1).trans rfl; have hcz8_2 : w7.cell? ⟨gb125, 2, none⟩ = some (.int .i64 0) := (blk_cell BK125.out 2).trans rfl; have hcz8_3 : w7.cell? ⟨gb125, 3, none⟩ = some (.int .i64 0) := (blk_cell BK125.out 3).trans rfl; have hfz8_0 := blk_frozen BK125.out 0; have hfz8_1 := blk_frozen BK125.out 1; have hfz8_2 := blk_frozen BK125.out 2; have hfz8_3 := blk_frozen BK125.out 3)))
      (try simp only [Act.put, List.setIfInBounds_toArray, List.set_cons_zero, List.set_cons_succ])
      go_cut [20] (fun v20 wc => ∃ (kq : Nat) (x20_5 : Bool), v20 = .bool x20_5 ∧ Aside0 (spec_Good.j1 kq a0 l1 l1 (l1.length : Int) x9_1 x20_5 ((rd_T38 l1 x9_1).f0) ((rd_T38 l1 x9_1).f1) ((rd_T38 l1 x9_1).f2) ((rd_T38 l1 x9_1).f3) = some r) ∧ Aside0 (kq ≤ k1) ∧ Aside0 (wc.heap[gb125]? = some (.cells #[.bool ((rd_T38 l1 x9_1).f0), .int .i64 ((rd_T38 l1 x9_1).f1), .int .i64 ((rd_T38 l1 x9_1).f2), .int .i64 ((rd_T38 l1 x9_1).f3)] 38 (0, 0))) ∧ Aside0 (Below w.heap.size w wc))
      case first =>
       have H := HC6.out
       clear HC6
       by_cases c9 : ((rd_T38 l1 x9_1).f3) < 1
       ·rw [if_pos c9] at H
        have c9b0 : decide (((rd_T38 l1 x9_1).f3) < 1) = true := decide_eq_true c9
        clear c9
        (first | rw [c9b0] | (simp only [i64_w, i32_w]; rw [c9b0]) | skip)
        have H' := Aside0.mk H
        clear H
        have hcz10_0 : w7.cell? ⟨gb125, 0, none⟩ = some (.bool false) := (blk_cell BK125.out 0).trans rfl
        have hcz10_1 : w7.cell? ⟨gb125, 1, none⟩ = some (.int .i64 0) := (blk_cell BK125.out 1).trans rfl
        have hcz10_2 : w7.cell? ⟨gb125, 2, none⟩ = some (.int .i64 0) := (blk_cell BK125.out 2).trans rfl
        have hcz10_3 : w7.cell? ⟨gb125, 3, none⟩ = some (.int .i64 0) := (blk_cell BK125.out 3).trans rfl
        have hfz10_0 := blk_frozen BK125.out 0
        have hfz10_1 := blk_frozen BK125.out 1
        have hfz10_2 := blk_frozen BK125.out 2
        have hfz10_3 := blk_frozen BK125.out 3
        go_wp2
        repeat (go_quiet (fail); try go_wp2)
        go_meet
        case rel => exact ⟨_, (true), (by first | rfl | (simp; done) | (simp [*]; done)), H', ⟨by have := HK1.out; first | omega | exact Nat.le_refl _⟩, ⟨by (with_reducible repeat (first | refine blk_drewN ?_ _ | refine blk_drew ?_ | refine blk_alloc ?_ _)); refine blk_put (cs := #[.bool ((rd_T38 l1 x9_1).f0), .int .i64 ((rd_T38 l1 x9_1).f1), .int .i64 ((rd_T38 l1 x9_1).f2), .int .i64 0]) ?_ 3 _ rfl; (with_reducible repeat (first | refine blk_drewN ?_ _ | refine blk_drew ?_ | refine blk_alloc ?_ _)); refine blk_put (cs := #[.bool ((rd_T38 l1 x9_1).f0), .int .i64 ((rd_T38 l1 x9_1).f1), .int .i64 0, .int .i64 0]) ?_ 2 _ rfl; (with_reducible repeat (first | refine blk_drewN ?_ _ | refine blk_drew ?_ | refine blk_alloc ?_ _)); refine blk_put (cs := #[.bool ((rd_T38 l1 x9_1).f0), .int .i64 0, .int .i64 0, .int .i64 0]) ?_ 1 _ rfl; (with_reducible repeat (first | refine blk_drewN ?_ _ | refine blk_drew ?_ | refine blk_alloc ?_ _)); refine blk_put (cs := #[.bool false, .int .i64 0, .int .i64 0, .int .i64 0]) ?_ 0 _ rfl; (with_reducible repeat (first | refine blk_drewN ?_ _ | refine blk_drew ?_ | refine blk_alloc ?_ _)); exact BK125.out⟩, ⟨by repeat (first | (with_reducible first | exact HB.out | apply below_alloc | apply pw_below_drewN | apply below_drew1 | refine below_set ?_ GE125.out) | exact HB.out)⟩⟩
       ·rw [if_neg c9] at H
        have c9b0 : decide (((rd_T38 l1 x9_1).f3) < 1) = false := decide_eq_false c9
        clear c9
        (first | rw [c9b0] | (simp only [i64_w, i32_w]; rw [c9b0]) | skip)
        have H' := Aside0.mk H
        clear H
        have hcz11_0 : w7.cell? ⟨gb125, 0, none⟩ = some (.bool false) := (blk_cell BK125.out 0).trans rfl
        have hcz11_1 : w7.cell? ⟨gb125, 1, none⟩ = some (.int .i64 0) := (blk_cell BK125.out 1).trans rfl
        have hcz11_2 : w7.cell? ⟨gb125, 2, none⟩ = some (.int .i64 0) := (blk_cell BK125.out 2).trans rfl
        have hcz11_3 : w7.cell? ⟨gb125, 3, none⟩ = some (.int .i64 0) := (blk_cell BK125.out 3).trans rfl
        have hfz11_0 := blk_frozen BK125.out 0
        have hfz11_1 := blk_frozen BK125.out 1
        have hfz11_2 := blk_frozen BK125.out 2
        have hfz11_3 := blk_frozen BK125.out 3
        go_wp2
        repeat (go_quiet (fail); try go_wp2)
        go_meet
        case rel => exact ⟨_, (decide (((rd_T38 l1 x9_1).f3) > 60)), (by first | rfl | (simp; done) | (simp [*]; done)), H', ⟨by have := HK1.out; first | omega | exact Nat.le_refl _⟩, ⟨by (with_reducible repeat (first | refine blk_drewN ?_ _ | refine blk_drew ?_ | refine blk_alloc ?_ _)); refine blk_put (cs := #[.bool ((rd_T38 l1 x9_1).f0), .int .i64 ((rd_T38 l1 x9_1).f1), .int .i64 ((rd_T38 l1 x9_1).f2), .int .i64 0]) ?_ 3 _ rfl; (with_reducible repeat (first | refine blk_drewN ?_ _ | refine blk_drew ?_ | refine blk_alloc ?_ _)); refine blk_put (cs := #[.bool ((rd_T38 l1 x9_1).f0), .int .i64 ((rd_T38 l1 x9_1).f1), .int .i64 0, .int .i64 0]) ?_ 2 _ rfl; (with_reducible repeat (first | refine blk_drewN ?_ _ | refine blk_drew ?_ | refine blk_alloc ?_ _)); refine blk_put (cs := #[.bool ((rd_T38 l1 x9_1).f0), .int .i64 0, .int .i64 0, .int .i64 0]) ?_ 1 _ rfl; (with_reducible repeat (first | refine blk_drewN ?_ _ | refine blk_drew ?_ | refine blk_alloc ?_ _)); refine blk_put (cs := #[.bool false, .int .i64 0, .int .i64 0, .int .i64 0]) ?_ 0 _ rfl; (with_reducible repeat (first | refine blk_drewN ?_ _ | refine blk_drew ?_ | refine blk_alloc ?_ _)); exact BK125.out⟩, ⟨by repeat (first | (with_reducible first | exact HB.out | apply below_alloc | apply pw_below_drewN | apply below_drew1 | refine below_set ?_ GE125.out) | exact HB.out)⟩⟩
      case rest =>
       clear HC6
       obtain ⟨kq, x20_5, rfl, HA, HJ5, BK125, HB⟩ := hcut
       cases kq with
       | zero => exact absurd HA.out (by simp [spec_Good.j1])
       | succ kj5 =>
        have H := HA.out
        clear HA
        simp only [spec_Good.j1] at H
        by_cases c12 : x20_5 = true
        ·subst c12
         have H1 : (some false) = some r := by rw [if_pos rfl] at H; exact H
         clear H
         have H := H1
         clear H1
         obtain rfl := Option.some.inj H
         go_wp2
         repeat (go_quiet (fail); try go_wp2)
         go_ret
         exact ⟨by first | rfl | (simp [errW_none, errW_some] <;> rfl) | (simp [*, errW_none, errW_some] <;> rfl), by repeat (first | (with_reducible first | exact HB.out | apply below_alloc | apply pw_below_drewN | apply below_drew1 | refine below_set ?_ GE125.out) | exact HB.out)⟩
        ·replace c12 := Bool.eq_false_iff.mpr c12
         subst c12
         have H1 : (if ((rd_T38 l1 x9_1).f0) = true then (spec_Good.l0 kj5 a0 l1 l1 (l1.length : Int) (wrap64 (x9_1 + 1))) else ((spec_Low.f a0).bind fun t126 => (if ((rd_T38 l1 x9_1).f1) < t126 then (some false) else ((spec_High.f a0).bind fun t127 => (if ((rd_T38 l1 x9_1).f2) > t127 then (some false) else (if ((rd_T38 l1 x9_1).f1) > ((rd_T38 l1 x9_1).f2) then (some false) else (spec_Good.l0 kj5 a0 l1 l1 (l1.length : Int) (wrap64 (x9_1 + 1))))))))) = some r := by rw [if_neg (show ¬ (false = true) by decide)] at H; exact H
         clear H
         have H := H1
         clear H1
         by_cases c13 : ((rd_T38 l1 x9_1).f0) = true
         ·rw [if_pos c13] at H
          have c13b0 : ((rd_T38 l1 x9_1).f0) = true := c13
          clear c13
          have H' := Aside0.mk H
          clear H
          have hcz14_0 : wc.cell? ⟨gb125, 0, none⟩ = some (.bool ((rd_T38 l1 x9_1).f0)) := (blk_cell BK125.out 0).trans rfl
          have hcz14_1 : wc.cell? ⟨gb125, 1, none⟩ = some (.int .i64 ((rd_T38 l1 x9_1).f1)) := (blk_cell BK125.out 1).trans rfl
          have hcz14_2 : wc.cell? ⟨gb125, 2, none⟩ = some (.int .i64 ((rd_T38 l1 x9_1).f2)) := (blk_cell BK125.out 2).trans rfl
          have hcz14_3 : wc.cell? ⟨gb125, 3, none⟩ = some (.int .i64 ((rd_T38 l1 x9_1).f3)) := (blk_cell BK125.out 3).trans rfl
          have hfz14_0 := blk_frozen BK125.out 0
          have hfz14_1 := blk_frozen BK125.out 1
          have hfz14_2 := blk_frozen BK125.out 2
          have hfz14_3 := blk_frozen BK125.out 3
          go_wp2
          repeat (go_quiet (fail); try go_wp2)
          go_roundg kj5
          case measure => have := HK1.out; have := HJ5.out; omega
          case rel => exact ⟨(wrap64 (x9_1 + 1)), (by first | rfl | (simp; done) | (simp [*]; done)), H', ⟨by have := HK1.out; have := HJ5.out; omega⟩, ⟨by repeat (first | (with_reducible first | exact HB.out | apply below_alloc | apply pw_below_drewN | apply below_drew1 | refine below_set ?_ GE125.out) | exact HB.out)⟩⟩
         ·rw [if_neg c13] at H
          have c13b0 : ((rd_T38 l1 x9_1).f0) = false := by simpa using c13
          clear c13
          replace H := Option.bind_eq_some_iff.mp H
          obtain ⟨t126, A150, H⟩ := H
          replace H : (if ((rd_T38 l1 x9_1).f1) < t126 then (some false) else ((spec_High.f a0).bind fun t127 => (if ((rd_T38 l1 x9_1).f2) > t127 then (some false) else (if ((rd_T38 l1 x9_1).f1) > ((rd_T38 l1 x9_1).f2) then (some false) else (spec_Good.l0 kj5 a0 l1 l1 (l1.length : Int) (wrap64 (x9_1 + 1))))))) = some r := H
          have A15 := Aside0.mk A150
          clear A150
          by_cases c16 : ((rd_T38 l1 x9_1).f1) < t126
          ·rw [if_pos c16] at H
           have c16b0 : decide (((rd_T38 l1 x9_1).f1) < t126) = true := decide_eq_true c16
           clear c16
           obtain rfl := Option.some.inj H
           have hcz17_0 : wc.cell? ⟨gb125, 0, none⟩ = some (.bool ((rd_T38 l1 x9_1).f0)) := (blk_cell BK125.out 0).trans rfl
           have hcz17_1 : wc.cell? ⟨gb125, 1, none⟩ = some (.int .i64 ((rd_T38 l1 x9_1).f1)) := (blk_cell BK125.out 1).trans rfl
           have hcz17_2 : wc.cell? ⟨gb125, 2, none⟩ = some (.int .i64 ((rd_T38 l1 x9_1).f2)) := (blk_cell BK125.out 2).trans rfl
           have hcz17_3 : wc.cell? ⟨gb125, 3, none⟩ = some (.int .i64 ((rd_T38 l1 x9_1).f3)) := (blk_cell BK125.out 3).trans rfl
           have hfz17_0 := blk_frozen BK125.out 0
           have hfz17_1 := blk_frozen BK125.out 1
           have hfz17_2 := blk_frozen BK125.out 2
           have hfz17_3 := blk_frozen BK125.out 3
           go_wp2_with (first | (go_at_call 20; (with_reducible refine (spec_Low.calls a0 t126 _ A15.out).mono ?_); rintro e w' ⟨rfl, ⟨nd, rfl⟩⟩; (try first | exact ⟨rfl, _, World.drewN_drewN _ _ _⟩ | exact ⟨rfl, _, Eq.trans (World.drewN_drewN _ _ _) (congrArg (World.drewN _) (Nat.add_assoc _ _ _))⟩)))
           repeat (go_quiet (first | (go_at_call 20; (with_reducible refine (spec_Low.calls a0 t126 _ A15.out).mono ?_); rintro e w' ⟨rfl, ⟨nd, rfl⟩⟩; (try first | exact ⟨rfl, _, World.drewN_drewN _ _ _⟩ | exact ⟨rfl, _, Eq.trans (World.drewN_drewN _ _ _) (congrArg (World.drewN _) (Nat.add_assoc _ _ _))⟩))); try go_wp2_with (first | (go_at_call 20; (with_reducible refine (spec_Low.calls a0 t126 _ A15.out).mono ?_); rintro e w' ⟨rfl, ⟨nd, rfl⟩⟩; (try first | exact ⟨rfl, _, World.drewN_drewN _ _ _⟩ | exact ⟨rfl, _, Eq.trans (World.drewN_drewN _ _ _) (congrArg (World.drewN _) (Nat.add_assoc _ _ _))⟩))))
           go_ret
           exact ⟨by first | rfl | (simp [errW_none, errW_some] <;> rfl) | (simp [*, errW_none, errW_some] <;> rfl), by repeat (first | (with_reducible first | exact HB.out | apply below_alloc | apply pw_below_drewN | apply below_drew1 | refine below_set ?_ GE125.out) | exact HB.out)⟩
          ·rw [if_neg c16] at H
           have c16b0 : decide (((rd_T38 l1 x9_1).f1) < t126) = false := decide_eq_false c16
           clear c16
           replace H := Option.bind_eq_some_iff.mp H
           obtain ⟨t127, A180, H⟩ := H
           replace H : (if ((rd_T38 l1 x9_1).f2) > t127 then (some false) else (if ((rd_T38 l1 x9_1).f1) > ((rd_T38 l1 x9_1).f2) then (some false) else (spec_Good.l0 kj5 a0 l1 l1 (l1.length : Int) (wrap64 (x9_1 + 1))))) = some r := H
           have A18 := Aside0.mk A180
           clear A180
           by_cases c19 : ((rd_T38 l1 x9_1).f2) > t127
           ·rw [if_pos c19] at H
            have c19b0 : decide (t127 < ((rd_T38 l1 x9_1).f2)) = true := decide_eq_true c19
            clear c19
            obtain rfl := Option.some.inj H
            have hcz20_0 : wc.cell? ⟨gb125, 0, none⟩ = some (.bool ((rd_T38 l1 x9_1).f0)) := (blk_cell BK125.out 0).trans rfl
            have hcz20_1 : wc.cell? ⟨gb125, 1, none⟩ = some (.int .i64 ((rd_T38 l1 x9_1).f1)) := (blk_cell BK125.out 1).trans rfl
            have hcz20_2 : wc.cell? ⟨gb125, 2, none⟩ = some (.int .i64 ((rd_T38 l1 x9_1).f2)) := (blk_cell BK125.out 2).trans rfl
            have hcz20_3 : wc.cell? ⟨gb125, 3, none⟩ = some (.int .i64 ((rd_T38 l1 x9_1).f3)) := (blk_cell BK125.out 3).trans rfl
            have hfz20_0 := blk_frozen BK125.out 0
            have hfz20_1 := blk_frozen BK125.out 1
            have hfz20_2 := blk_frozen BK125.out 2
            have hfz20_3 := blk_frozen BK125.out 3
            go_wp2_with (first | (go_at_call 20; (with_reducible refine (spec_Low.calls a0 t126 _ A15.out).mono ?_); rintro e w' ⟨rfl, ⟨nd, rfl⟩⟩; (try first | exact ⟨rfl, _, World.drewN_drewN _ _ _⟩ | exact ⟨rfl, _, Eq.trans (World.drewN_drewN _ _ _) (congrArg (World.drewN _) (Nat.add_assoc _ _ _))⟩)) | (go_at_call 21; (with_reducible refine (spec_High.calls a0 t127 _ A18.out).mono ?_); rintro e w' ⟨rfl, ⟨nd, rfl⟩⟩; (try first | exact ⟨rfl, _, World.drewN_drewN _ _ _⟩ | exact ⟨rfl, _, Eq.trans (World.drewN_drewN _ _ _) (congrArg (World.drewN _) (Nat.add_assoc _ _ _))⟩)))
            repeat (go_quiet (first | (go_at_call 20; (with_reducible refine (spec_Low.calls a0 t126 _ A15.out).mono ?_); rintro e w' ⟨rfl, ⟨nd, rfl⟩⟩; (try first | exact ⟨rfl, _, World.drewN_drewN _ _ _⟩ | exact ⟨rfl, _, Eq.trans (World.drewN_drewN _ _ _) (congrArg (World.drewN _) (Nat.add_assoc _ _ _))⟩)) | (go_at_call 21; (with_reducible refine (spec_High.calls a0 t127 _ A18.out).mono ?_); rintro e w' ⟨rfl, ⟨nd, rfl⟩⟩; (try first | exact ⟨rfl, _, World.drewN_drewN _ _ _⟩ | exact ⟨rfl, _, Eq.trans (World.drewN_drewN _ _ _) (congrArg (World.drewN _) (Nat.add_assoc _ _ _))⟩))); try go_wp2_with (first | (go_at_call 20; (with_reducible refine (spec_Low.calls a0 t126 _ A15.out).mono ?_); rintro e w' ⟨rfl, ⟨nd, rfl⟩⟩; (try first | exact ⟨rfl, _, World.drewN_drewN _ _ _⟩ | exact ⟨rfl, _, Eq.trans (World.drewN_drewN _ _ _) (congrArg (World.drewN _) (Nat.add_assoc _ _ _))⟩)) | (go_at_call 21; (with_reducible refine (spec_High.calls a0 t127 _ A18.out).mono ?_); rintro e w' ⟨rfl, ⟨nd, rfl⟩⟩; (try first | exact ⟨rfl, _, World.drewN_drewN _ _ _⟩ | exact ⟨rfl, _, Eq.trans (World.drewN_drewN _ _ _) (congrArg (World.drewN _) (Nat.add_assoc _ _ _))⟩))))
            go_ret
            exact ⟨by first | rfl | (simp [errW_none, errW_some] <;> rfl) | (simp [*, errW_none, errW_some] <;> rfl), by repeat (first | (with_reducible first | exact HB.out | apply below_alloc | apply pw_below_drewN | apply below_drew1 | refine below_set ?_ GE125.out) | exact HB.out)⟩
           ·rw [if_neg c19] at H
            have c19b0 : decide (t127 < ((rd_T38 l1 x9_1).f2)) = false := decide_eq_false c19
            clear c19
            by_cases c21 : ((rd_T38 l1 x9_1).f1) > ((rd_T38 l1 x9_1).f2)
            ·rw [if_pos c21] at H
             have c21b0 : decide (((rd_T38 l1 x9_1).f2) < ((rd_T38 l1 x9_1).f1)) = true := decide_eq_true c21
             clear c21
             obtain rfl := Option.some.inj H
             have hcz22_0 : wc.cell? ⟨gb125, 0, none⟩ = some (.bool ((rd_T38 l1 x9_1).f0)) := (blk_cell BK125.out 0).trans rfl
             have hcz22_1 : wc.cell? ⟨gb125, 1, none⟩ = some (.int .i64 ((rd_T38 l1 x9_1).f1)) := (blk_cell BK125.out 1).trans rfl
             have hcz22_2 : wc.cell? ⟨gb125, 2, none⟩ = some (.int .i64 ((rd_T38 l1 x9_1).f2)) := (blk_cell BK125.out 2).trans rfl
             have hcz22_3 : wc.cell? ⟨gb125, 3, none⟩ = some (.int .i64 ((rd_T38 l1 x9_1).f3)) := (blk_cell BK125.out 3).trans rfl
             have hfz22_0 := blk_frozen BK125.out 0
             have hfz22_1 := blk_frozen BK125.out 1
             have hfz22_2 := blk_frozen BK125.out 2
             have hfz22_3 := blk_frozen BK125.out 3
             go_wp2_with (first | (go_at_call 20; (with_reducible refine (spec_Low.calls a0 t126 _ A15.out).mono ?_); rintro e w' ⟨rfl, ⟨nd, rfl⟩⟩; (try first | exact ⟨rfl, _, World.drewN_drewN _ _ _⟩ | exact ⟨rfl, _, Eq.trans (World.drewN_drewN _ _ _) (congrArg (World.drewN _) (Nat.add_assoc _ _ _))⟩)) | (go_at_call 21; (with_reducible refine (spec_High.calls a0 t127 _ A18.out).mono ?_); rintro e w' ⟨rfl, ⟨nd, rfl⟩⟩; (try first | exact ⟨rfl, _, World.drewN_drewN _ _ _⟩ | exact ⟨rfl, _, Eq.trans (World.drewN_drewN _ _ _) (congrArg (World.drewN _) (Nat.add_assoc _ _ _))⟩)))
             repeat (go_quiet (first | (go_at_call 20; (with_reducible refine (spec_Low.calls a0 t126 _ A15.out).mono ?_); rintro e w' ⟨rfl, ⟨nd, rfl⟩⟩; (try first | exact ⟨rfl, _, World.drewN_drewN _ _ _⟩ | exact ⟨rfl, _, Eq.trans (World.drewN_drewN _ _ _) (congrArg (World.drewN _) (Nat.add_assoc _ _ _))⟩)) | (go_at_call 21; (with_reducible refine (spec_High.calls a0 t127 _ A18.out).mono ?_); rintro e w' ⟨rfl, ⟨nd, rfl⟩⟩; (try first | exact ⟨rfl, _, World.drewN_drewN _ _ _⟩ | exact ⟨rfl, _, Eq.trans (World.drewN_drewN _ _ _) (congrArg (World.drewN _) (Nat.add_assoc _ _ _))⟩))); try go_wp2_with (first | (go_at_call 20; (with_reducible refine (spec_Low.calls a0 t126 _ A15.out).mono ?_); rintro e w' ⟨rfl, ⟨nd, rfl⟩⟩; (try first | exact ⟨rfl, _, World.drewN_drewN _ _ _⟩ | exact ⟨rfl, _, Eq.trans (World.drewN_drewN _ _ _) (congrArg (World.drewN _) (Nat.add_assoc _ _ _))⟩)) | (go_at_call 21; (with_reducible refine (spec_High.calls a0 t127 _ A18.out).mono ?_); rintro e w' ⟨rfl, ⟨nd, rfl⟩⟩; (try first | exact ⟨rfl, _, World.drewN_drewN _ _ _⟩ | exact ⟨rfl, _, Eq.trans (World.drewN_drewN _ _ _) (congrArg (World.drewN _) (Nat.add_assoc _ _ _))⟩))))
             go_ret
             exact ⟨by first | rfl | (simp [errW_none, errW_some] <;> rfl) | (simp [*, errW_none, errW_some] <;> rfl), by repeat (first | (with_reducible first | exact HB.out | apply below_alloc | apply pw_below_drewN | apply below_drew1 | refine below_set ?_ GE125.out) | exact HB.out)⟩
            ·rw [if_neg c21] at H
             have c21b0 : decide (((rd_T38 l1 x9_1).f2) < ((rd_T38 l1 x9_1).f1)) = false := decide_eq_false c21
             clear c21
             have H' := Aside0.mk H
             clear H
             have hcz23_0 : wc.cell? ⟨gb125, 0, none⟩ = some (.bool ((rd_T38 l1 x9_1).f0)) := (blk_cell BK125.out 0).trans rfl
             have hcz23_1 : wc.cell? ⟨gb125, 1, none⟩ = some (.int .i64 ((rd_T38 l1 x9_1).f1)) := (blk_cell BK125.out 1).trans rfl
             have hcz23_2 : wc.cell? ⟨gb125, 2, none⟩ = some (.int .i64 ((rd_T38 l1 x9_1).f2)) := (blk_cell BK125.out 2).trans rfl
             have hcz23_3 : wc.cell? ⟨gb125, 3, none⟩ = some (.int .i64 ((rd_T38 l1 x9_1).f3)) := (blk_cell BK125.out 3).trans rfl
             have hfz23_0 := blk_frozen BK125.out 0
             have hfz23_1 := blk_frozen BK125.out 1
             have hfz23_2 := blk_frozen BK125.out 2
             have hfz23_3 := blk_frozen BK125.out 3
             go_wp2_with (first | (go_at_call 20; (with_reducible refine (spec_Low.calls a0 t126 _ A15.out).mono ?_); rintro e w' ⟨rfl, ⟨nd, rfl⟩⟩; (try first | exact ⟨rfl, _, World.drewN_drewN _ _ _⟩ | exact ⟨rfl, _, Eq.trans (World.drewN_drewN _ _ _) (congrArg (World.drewN _) (Nat.add_assoc _ _ _))⟩)) | (go_at_call 21; (with_reducible refine (spec_High.calls a0 t127 _ A18.out).mono ?_); rintro e w' ⟨rfl, ⟨nd, rfl⟩⟩; (try first | exact ⟨rfl, _, World.drewN_drewN _ _ _⟩ | exact ⟨rfl, _, Eq.trans (World.drewN_drewN _ _ _) (congrArg (World.drewN _) (Nat.add_assoc _ _ _))⟩)))
             repeat (go_quiet (first | (go_at_call 20; (with_reducible refine (spec_Low.calls a0 t126 _ A15.out).mono ?_); rintro e w' ⟨rfl, ⟨nd, rfl⟩⟩; (try first | exact ⟨rfl, _, World.drewN_drewN _ _ _⟩ | exact ⟨rfl, _, Eq.trans (World.drewN_drewN _ _ _) (congrArg (World.drewN _) (Nat.add_assoc _ _ _))⟩)) | (go_at_call 21; (with_reducible refine (spec_High.calls a0 t127 _ A18.out).mono ?_); rintro e w' ⟨rfl, ⟨nd, rfl⟩⟩; (try first | exact ⟨rfl, _, World.drewN_drewN _ _ _⟩ | exact ⟨rfl, _, Eq.trans (World.drewN_drewN _ _ _) (congrArg (World.drewN _) (Nat.add_assoc _ _ _))⟩))); try go_wp2_with (first | (go_at_call 20; (with_reducible refine (spec_Low.calls a0 t126 _ A15.out).mono ?_); rintro e w' ⟨rfl, ⟨nd, rfl⟩⟩; (try first | exact ⟨rfl, _, World.drewN_drewN _ _ _⟩ | exact ⟨rfl, _, Eq.trans (World.drewN_drewN _ _ _) (congrArg (World.drewN _) (Nat.add_assoc _ _ _))⟩)) | (go_at_call 21; (with_reducible refine (spec_High.calls a0 t127 _ A18.out).mono ?_); rintro e w' ⟨rfl, ⟨nd, rfl⟩⟩; (try first | exact ⟨rfl, _, World.drewN_drewN _ _ _⟩ | exact ⟨rfl, _, Eq.trans (World.drewN_drewN _ _ _) (congrArg (World.drewN _) (Nat.add_assoc _ _ _))⟩))))
             go_roundg kj5
             case measure => have := HK1.out; have := HJ5.out; omega
             case rel => exact ⟨(wrap64 (x9_1 + 1)), (by first | rfl | (simp; done) | (simp [*]; done)), H', ⟨by have := HK1.out; have := HJ5.out; omega⟩, ⟨by repeat (first | (with_reducible first | exact HB.out | apply below_alloc | apply pw_below_drewN | apply below_drew1 | refine below_set ?_ GE125.out) | exact HB.out)⟩⟩
     ·rw [if_neg c5] at H
      exact absurd H (by simp)
    ·rw [if_neg c4] at H
     exact absurd H (by simp)
   ·rw [if_neg c3] at H
    have c3b0 : decide (x9_1 < (l1.length : Int)) = false := decide_eq_false c3
    clear c3
    by_cases c24 : (l1.length : Int) ≥ 1
    ·rw [if_pos c24] at H
     have c24b0 : decide (1 ≤ (l1.length : Int)) = true := decide_eq_true c24
     have c24b1 : decide (1 ≤ l1.length) = true := decide_eq_true (by omega)
     clear c24
     obtain rfl := Option.some.inj H
     go_wp2
     repeat (go_quiet (fail); try go_wp2)
     go_ret
     exact ⟨by first | rfl | (simp [errW_none, errW_some] <;> rfl) | (simp [*, errW_none, errW_some] <;> rfl), by repeat (first | (with_reducible first | exact HB.out | apply below_alloc | apply pw_below_drewN | apply below_drew1) | exact HB.out)⟩
    ·rw [if_neg c24] at H
     have c24b0 : decide (1 ≤ (l1.length : Int)) = false := decide_eq_false c24
     have c24b1 : decide (1 ≤ l1.length) = false := decide_eq_false (by omega)
     clear c24
     obtain rfl := Option.some.inj H
     go_wp2
     repeat (go_quiet (fail); try go_wp2)
     go_ret
     exact ⟨by first | rfl | (simp [errW_none, errW_some] <;> rfl) | (simp [*, errW_none, errW_some] <;> rfl), by repeat (first | (with_reducible first | exact HB.out | apply below_alloc | apply pw_below_drewN | apply below_drew1) | exact HB.out)⟩
def spec_Star.f (l0 : List (S38)) : Option (Bool) := if (l0.length : Int) = 1 then (if 0 < (l0.length : Int) then (if (rd_T38 l0 0).f0 = true then (some (((rd_T38 l0 0).f3) == 1)) else (some false)) else (none)) else (some false)
set_option maxHeartbeats 8000000 in
set_option maxRecDepth 100000 in
theorem spec_Star.calls (A0 : Option Addr) (c0 : Nat) (l0 : List (S38)) (r : Bool) (w : World) (hr0 : Kd.C k38 w A0 l0.length l0) (hc0 : l0.length ≤ c0) (h : spec_Star.f l0 = some r) :
  Calls Tryz.prog 17 #[.slice A0 l0.length c0] w fun e w' => e = .returned (.bool r) ∧ Drawn0 w w' := by
 have HR0 := Aside0.mk hr0
 have HC0 := Aside0.mk hc0
 clear hr0 hc0
 have H : (if (l0.length : Int) = 1 then (if 0 < (l0.length : Int) then (if (rd_T38 l0 0).f0 = true then (some (((rd_T38 l0 0).f3) == 1)) else (some false)) else (none)) else (some false)) = some r := h
 clear h
 by_cases c2 : (l0.length : Int) = 1
 ·rw [if_pos c2] at H
  have c2b0 : ((l0.length : Int) == 1) = true := beq_iff_eq.mpr c2
  have c2b1 : ((l0.length : Int) != 1) = false := bne_eq_false_iff_eq.mpr c2
  clear c2
  by_cases c3 : 0 < (l0.length : Int)
  ·rw [if_pos c3] at H
   have c3b0 : decide (0 < (l0.length : Int)) = true := decide_eq_true c3
   have c3b1 : decide (0 < l0.length) = true := decide_eq_true (by omega)
   clear c3
   obtain ⟨bq4, hbq4⟩ : ∃ b_ : Bool, b_ = ((rd_T38 l0 0).f0) := ⟨_, rfl⟩
   replace H : (if bq4 = true then (some (((rd_T38 l0 0).f3) == 1)) else (some false)) = some r := by rw [← hbq4] at H; exact H
   have Nbq4 := Aside0.mk hbq4
   clear hbq4
   by_cases c5 : bq4 = true
   ·subst c5
    have H1 : (some (((rd_T38 l0 0).f3) == 1)) = some r := by rw [if_pos rfl] at H; exact H
    clear H
    have H := H1
    clear H1
    obtain rfl := Option.some.inj H
    have p121 : 0 ≤ (0 : Int) := (by omega)
    have q121 : 0 < (l0.length : Int) := of_decide_eq_true (by first | (with_reducible assumption) | assumption)
    obtain ⟨ad121, e121, hx121_0, hx121_1, hx121_2, hx121_3⟩ := at_T38 HR0.out 0 p121 q121
    (try rw [← Nbq4.out] at hx121_0)
    cases e121
    have qi121 : (0 < l0.length) = True := eq_true (by omega)
    (try rw [show ((0 : Int)).toNat = 0 from rfl] at hx121_0)
    (try rw [show 0 * 4 = 0 from rfl] at hx121_0)
    (try rw [Addr.add_zero'] at hx121_0)
    (try rw [show ((0 : Int)).toNat = 0 from rfl] at hx121_1)
    (try rw [show 0 * 4 = 0 from rfl] at hx121_1)
    (try rw [Addr.add_zero'] at hx121_1)
    (try rw [show ((0 : Int)).toNat = 0 from rfl] at hx121_2)
    (try rw [show 0 * 4 = 0 from rfl] at hx121_2)
    (try rw [Addr.add_zero'] at hx121_2)
    (try rw [show ((0 : Int)).toNat = 0 from rfl] at hx121_3)
    (try rw [show 0 * 4 = 0 from rfl] at hx121_3)
    (try rw [Addr.add_zero'] at hx121_3)
    replace p121 := eq_true p121
    replace q121 := eq_true q121
    have p122 : 0 ≤ (0 : Int) := (by omega)
    have q122 : 0 < (l0.length : Int) := of_decide_eq_true (by first | (with_reducible assumption) | assumption)
    obtain ⟨ad122, e122, hx122_0, hx122_1, hx122_2, hx122_3⟩ := at_T38 HR0.out 0 p122 q122
    (try rw [← Nbq4.out] at hx122_0)
    obtain rfl : ad121 = ad122 := (by injection e122)
    have qi122 : (0 < l0.length) = True := eq_true (by omega)
    (try rw [show ((0 : Int)).toNat = 0 from rfl] at hx122_0)
    (try rw [show 0 * 4 = 0 from rfl] at hx122_0)
    (try rw [Addr.add_zero'] at hx122_0)
    (try rw [show ((0 : Int)).toNat = 0 from rfl] at hx122_1)
    (try rw [show 0 * 4 = 0 from rfl] at hx122_1)
    (try rw [Addr.add_zero'] at hx122_1)
    (try rw [show ((0 : Int)).toNat = 0 from rfl] at hx122_2)
    (try rw [show 0 * 4 = 0 from rfl] at hx122_2)
    (try rw [Addr.add_zero'] at hx122_2)
    (try rw [show ((0 : Int)).toNat = 0 from rfl] at hx122_3)
    (try rw [show 0 * 4 = 0 from rfl] at hx122_3)
    (try rw [Addr.add_zero'] at hx122_3)
    replace p122 := eq_true p122
    replace q122 := eq_true q122
    go_enter Tryz.func17, Tryz.ntmps17
    go_wp2
    go_ret
    exact ⟨by first | rfl | (simp; done) | (simp [*]; done), by repeat (first | exact Drawn0.refl _ | apply Drawn0.step)⟩
   ·replace c5 := Bool.eq_false_iff.mpr c5
    subst c5
    have H1 : (some false) = some r := by rw [if_neg (show ¬ (false = true) by decide)] at H; exact H
    clear H
    have H := H1
    clear H1
    obtain rfl := Option.some.inj H
    have p121 : 0 ≤ (0 : Int) := (by omega)
    have q121 : 0 < (l0.length : Int) := of_decide_eq_true (by first | (with_reducible assumption) | assumption)
    obtain ⟨ad121, e121, hx121_0, hx121_1, hx121_2, hx121_3⟩ := at_T38 HR0.out 0 p121 q121
    (try rw [← Nbq4.out] at hx121_0)
    cases e121
    have qi121 : (0 < l0.length) = True := eq_true (by omega)
    (try rw [show ((0 : Int)).toNat = 0 from rfl] at hx121_0)
    (try rw [show 0 * 4 = 0 from rfl] at hx121_0)
    (try rw [Addr.add_zero'] at hx121_0)
    (try rw [show ((0 : Int)).toNat = 0 from rfl] at hx121_1)
    (try rw [show 0 * 4 = 0 from rfl] at hx121_1)
    (try rw [Addr.add_zero'] at hx121_1)
    (try rw [show ((0 : Int)).toNat = 0 from rfl] at hx121_2)
    (try rw [show 0 * 4 = 0 from rfl] at hx121_2)
    (try rw [Addr.add_zero'] at hx121_2)
    (try rw [show ((0 : Int)).toNat = 0 from rfl] at hx121_3)
    (try rw [show 0 * 4 = 0 from rfl] at hx121_3)
    (try rw [Addr.add_zero'] at hx121_3)
    replace p121 := eq_true p121
    replace q121 := eq_true q121
    go_enter Tryz.func17, Tryz.ntmps17
    go_wp2
    go_ret
    exact ⟨by first | rfl | (simp; done) | (simp [*]; done), by repeat (first | exact Drawn0.refl _ | apply Drawn0.step)⟩
  ·rw [if_neg c3] at H
   exact absurd H (by simp)
 ·rw [if_neg c2] at H
  have c2b0 : ((l0.length : Int) == 1) = false := beq_eq_false_iff_ne.mpr c2
  have c2b1 : ((l0.length : Int) != 1) = true := bne_iff_ne.mpr c2
  obtain rfl := Option.some.inj H
  go_enter Tryz.func17, Tryz.ntmps17
  go_wp2
  go_ret
  exact ⟨by first | rfl | (simp; done) | (simp [*]; done), by repeat (first | exact Drawn0.refl _ | apply Drawn0.step)⟩
end Go.Proofs.YtemgofomhjabpaaGreatDoor.Core
namespace Go.Proofs.YtemgofomhjabpaaGreatDoor.Core
open Go.RowKit Go.Proofs.YtemgofomhjabpaaGreatDoorW.PrintWords Go.Proofs.YtemgofomhjabpaaGreatDoorW.PrintLast Go.Proofs.YtemgofomhjabpaaGreatDoorW.PrintMore
attribute [local go_sem] max2_int min2_int max_two min_two max_three min_three max_four min_four   -- for this text's walks alone
set_option linter.unusedVariables false
set_option linter.unusedSimpArgs false
attribute [local go_sem high] eqA38
mutual
def spec_ExprGood.l0 : Nat → List (List (S38)) → Int → Int → List (List (S38)) → Bool → Option (Bool)
 | 0, _, _, _, _, _ => none
 | k + 1, x12, x13, x14, x129000, x129001 => if x14 < x13 then (if 0 ≤ x14 then (if x14 < (x12.length : Int) then ((spec_Good.f k x14 (rd_L5 x12 x14)).bind fun t130 => (if t130 = true then (spec_ExprGood.l0 k x12 x13 (wrap64 (x14 + 1)) x129000 x129001) else (some false))) else (none)) else (none)) else (if x129001 = true then (spec_ExprGood.j1 k false x129000 x129001) else (if 0 < (x129000.length : Int) then (if ((rd_L5 x129000 0).length : Int) = 1 then (if 0 < ((rd_L5 x129000 0).length : Int) then (spec_ExprGood.j1 k (((rd_T38 (rd_L5 x129000 0) 0).f0) || (!(((rd_T38 (rd_L5 x129000 0) 0).f1) == 0) || (!(((rd_T38 (rd_L5 x129000 0) 0).f2) == 0) || (!(((rd_T38 (rd_L5 x129000 0) 0).f3) == 1))))) x129000 x129001) else (none)) else (spec_ExprGood.j1 k true x129000 x129001)) else (none)))
def spec_ExprGood.j1 : Nat → Bool → List (List (S38)) → Bool → Option (Bool)
 | 0, _, _, _ => none
 | k + 1, x44, x129000, x129001 => if x44 = true then (some false) else (if 3 < (x129000.length : Int) then ((spec_Star.f (rd_L5 x129000 3)).bind fun t135 => (if t135 = true then (spec_ExprGood.j2 k false x129000 x129001) else (if 5 < (x129000.length : Int) then ((spec_Star.f (rd_L5 x129000 5)).bind fun t137 => (spec_ExprGood.j2 k (!t137) x129000 x129001)) else (none)))) else (none))
def spec_ExprGood.j2 : Nat → Bool → List (List (S38)) → Bool → Option (Bool)
 | 0, _, _, _ => none
 | k + 1, x58, x129000, x129001 => if x58 = true then (some false) else (if 4 < (x129000.length : Int) then ((spec_Star.f (rd_L5 x129000 4)).bind fun t139 => (if t139 = true then (some true) else (if 3 < (x129000.length : Int) then (spec_ExprGood.l1 k (rd_L5 x129000 3) ((rd_L5 x129000 3).length : Int) 0) else (none)))) else (none))
def spec_ExprGood.l1 : Nat → List (S38) → Int → Int → Option (Bool)
 | 0, _, _, _ => none
 | k + 1, x68, x69, x70 => if x70 < x69 then (if 0 ≤ x70 then (if x70 < (x68.length : Int) then (if ((rd_T38 x68 x70).f0 = true) then (spec_ExprGood.l1 k x68 x69 (wrap64 (x70 + 1))) else (if ((rd_T38 x68 x70).f1) > 28 then (some false) else (spec_ExprGood.l1 k x68 x69 (wrap64 (x70 + 1))))) else (none)) else (none)) else (some true)
end
def spec_ExprGood.f (k : Nat) (l0_0 : List (List (S38))) (a0_1 : Bool) : Option (Bool) := if (l0_0.length : Int) = 6 then (spec_ExprGood.l0 k l0_0 (l0_0.length : Int) 0 l0_0 a0_1) else (some false)
set_option maxHeartbeats 8000000 in
set_option maxRecDepth 100000 in
theorem spec_ExprGood.calls (k : Nat) (A0_0 : Option Addr) (c0_0 : Nat) (l0_0 : List (List (S38))) (a0_1 : Bool) (r : Bool) (w : World) (hr0_0 : Kd.C (Kd.slice 38 k38) w A0_0 l0_0.length l0_0) (hc0_0 : l0_0.length ≤ c0_0) (h : spec_ExprGood.f k l0_0 a0_1 = some r) :
  Calls Tryz.prog 28 #[.agg #[.slice A0_0 l0_0.length c0_0, .bool a0_1]] w fun e w' => e = .returned (.bool r) ∧ Below w.heap.size w w' := by
 have hu30 := Tryz.underlying30
 have hu38 := Tryz.underlying38
 have HR0_0 := Aside0.mk hr0_0
 have HC0_0 := Aside0.mk hc0_0
 clear hr0_0 hc0_0
 have HB := Aside0.mk (Below.refl w.heap.size w)
 have H : (if (l0_0.length : Int) = 6 then (spec_ExprGood.l0 k l0_0 (l0_0.length : Int) 0 l0_0 a0_1) else (some false)) = some r := h
 clear h
 by_cases c2 : (l0_0.length : Int) = 6
 ·rw [if_pos c2] at H
  have c2b0 : ((l0_0.length : Int) == 6) = true := beq_iff_eq.mpr c2
  have c2b1 : ((l0_0.length : Int) != 6) = false := bne_eq_false_iff_eq.mpr c2
  clear c2
  have H' := Aside0.mk H
  clear H
  go_enter Tryz.func28, Tryz.ntmps28
  go_wp2_with (first | ((with_reducible refine gate_dst (N := 1) rfl ?_); (try (refine gate_guard (by rfl) ?_; dsimp only)); refine box_event ?hg (N := 1) ?hd (cs := #[.slice A0_0 l0_0.length c0_0, .bool a0_1]) (t := 30) ?hr ?_; (case hd => rfl); (case hg => rfl); (case hr => first | (go_simp; done) | (go_simp; rfl)); intro gb128 hg w3 hbox hb; have n0_ := Aside0.mk (below_step (by repeat (first | (with_reducible first | exact HB.out | apply below_alloc | apply pw_below_drewN | apply below_drew1) | exact HB.out)) hb); have n1_ := Aside0.mk (hbox); have n2_ := Aside0.mk ((by rw [hg]; exact (below_size (by repeat (first | (with_reducible first | exact HB.out | apply below_alloc | apply pw_below_drewN | apply below_drew1) | exact HB.out))) : w.heap.size ≤ gb128)); have n3_ := Aside0.mk ((by rw [hg]; exact (below_size (by repeat (first | (with_reducible first | exact HB.out | apply below_alloc | apply pw_below_drewN | apply below_drew1) | exact HB.out))) : w.heap.size ≤ gb128)); clear HB; have HB := n0_; have BK128 := n1_; have GW128 := n2_; have GE128 := n3_; clear n0_ n1_ n2_ n3_; clear hb hbox hg; have hcz4_0 : w3.cell? ⟨gb128, 0, none⟩ = some (.slice A0_0 l0_0.length c0_0) := (blk_cell BK128.out 0).trans rfl; have hcz4_1 : w3.cell? ⟨gb128, 1, none⟩ = some (.bool a0_1) := (blk_cell BK128.out 1).trans rfl; have hfz4_0 := blk_frozen BK128.out 0; have hfz4_1 := blk_frozen BK128.out 1))
  go_loopg [14] k (fun kq v14 w' => ∃ (x14_1 : Int), v14 = .int .i64 x14_1 ∧ Aside0 (spec_ExprGood.l0 kq l0_0 (l0_0.length : Int) x14_1 l0_0 a0_1 = some r) ∧ Aside0 (kq ≤ k) ∧ Aside0 (w'.heap[gb128]? = some (.cells #[(.slice A0_0 l0_0.length c0_0), .bool a0_1] 30 (0, 0))) ∧ Aside0 (Below w.heap.size w w'))
  case atStart => exact ⟨(0), (by first | rfl | (simp; done) | (simp [*]; done)), H', ⟨Nat.le_refl _⟩, ⟨by (with_reducible repeat (first | refine blk_drewN ?_ _ | refine blk_drew ?_ | refine blk_alloc ?_ _)); exact BK128.out⟩, ⟨by repeat (first | (with_reducible first | exact HB.out | apply below_alloc | apply pw_below_drewN | apply below_drew1 | refine below_set ?_ GE128.out) | exact HB.out)⟩⟩
  case round =>
   clear H'
   obtain ⟨x14_1, rfl, HA, HK1, BK128, HB⟩ := hrel
   cases gk with
   | zero => exact absurd HA.out (by simp [spec_ExprGood.l0])
   | succ k1 =>
    have H := HA.out
    clear HA
    simp only [spec_ExprGood.l0] at H
    by_cases c5 : x14_1 < (l0_0.length : Int)
    ·rw [if_pos c5] at H
     have c5b0 : decide (x14_1 < (l0_0.length : Int)) = true := decide_eq_true c5
     clear c5
     by_cases c6 : 0 ≤ x14_1
     ·rw [if_pos c6] at H
      have c6b0 : decide (0 ≤ x14_1) = true := decide_eq_true c6
      clear c6
      by_cases c7 : x14_1 < (l0_0.length : Int)
      ·rw [if_pos c7] at H
       have c7b0 : decide (x14_1 < (l0_0.length : Int)) = true := decide_eq_true c7
       clear c7
       replace H := Option.bind_eq_some_iff.mp H
       obtain ⟨t130, A80, H⟩ := H
       replace H : (if t130 = true then (spec_ExprGood.l0 k1 l0_0 (l0_0.length : Int) (wrap64 (x14_1 + 1)) l0_0 a0_1) else (some false)) = some r := H
       have A8 := Aside0.mk A80
       clear A80
       by_cases c9 : t130 = true
       ·subst c9
        have H1 : (spec_ExprGood.l0 k1 l0_0 (l0_0.length : Int) (wrap64 (x14_1 + 1)) l0_0 a0_1) = some r := by rw [if_pos rfl] at H; exact H
        clear H
        have H := H1
        clear H1
        have H' := Aside0.mk H
        clear H
        have p129 : 0 ≤ (x14_1 : Int) := of_decide_eq_true (by first | (with_reducible assumption) | assumption)
        have q129 : x14_1 < (l0_0.length : Int) := of_decide_eq_true (by first | (with_reducible assumption) | assumption)
        obtain ⟨ad129, A129_0, c129_0, e129, hx129_0, hl129_0, hi129_0⟩ := at_L5 HR0_0.out x14_1 p129 q129
        cases e129
        replace hx129_0 := (HB.out.cell (World.block_lt_of_cell? w _ hx129_0)).trans hx129_0
        have HR129_0 := Aside0.mk hi129_0
        have HC129_0 := Aside0.mk hl129_0
        clear hi129_0 hl129_0
        replace p129 := eq_true p129
        replace q129 := eq_true q129
        go_wp2_with (first | ((with_reducible refine gate_callee (f := 40) rfl ?_); refine goesL_ (some 21) rfl rfl Tryz.func40 (by kernel_rfl) rfl #[.int .i64 x14_1, .slice A129_0 (rd_L5 l0_0 x14_1).length c129_0] rfl (by (try simp only [List.map_toArray, List.map_cons, List.map_nil]); first | done | rfl | (simp only [List.length_drop, List.length_take]; rfl)) ?_; (with_reducible refine (spec_Good.calls k1 x14_1 _ _ (rd_L5 l0_0 x14_1) true _ ?side1 ?side2 A8.out).mono ?_); (case side1 => repeat (first | exact (Kd.C_below HR129_0.out HB.out) | (with_reducible refine Kd.C_alloc ?_ _) | (with_reducible refine Kd.C_drewN ?_ _) | (with_reducible refine Kd.C_drew ?_))); (case side2 => exact HC129_0.out); rintro e w10 ⟨rfl, hb⟩; refine ⟨_, rfl, ?_⟩; have n0_ := Aside0.mk (blk_below (g := gb128) (o := .cells #[.slice (some ad129) l0_0.length c0_0, .bool a0_1] 30 (0, 0)) (by (with_reducible repeat (first | refine blk_drewN ?_ _ | refine blk_drew ?_ | refine blk_alloc ?_ _)); exact BK128.out) hb); have n1_ := Aside0.mk (below_step (by repeat (first | (with_reducible first | exact HB.out | apply below_alloc | apply pw_below_drewN | apply below_drew1 | refine below_set ?_ GE128.out) | exact HB.out)) hb); clear BK128; clear HB; have BK128 := n0_; have HB := n1_; clear n0_ n1_; (try clear hb); (try clear hb2); (try clear hk); (try clear hi)))
        go_roundg k1
        case measure => have := HK1.out; omega
        case rel => exact ⟨(wrap64 (x14_1 + 1)), (by first | rfl | (simp; done) | (simp [*]; done)), H', ⟨by have := HK1.out; omega⟩, ⟨by (with_reducible repeat (first | refine blk_drewN ?_ _ | refine blk_drew ?_ | refine blk_alloc ?_ _)); exact BK128.out⟩, ⟨by repeat (first | (with_reducible first | exact HB.out | apply below_alloc | apply pw_below_drewN | apply below_drew1 | refine below_set ?_ GE128.out) | exact HB.out)⟩⟩
       ·replace c9 := Bool.eq_false_iff.mpr c9
        subst c9
        have H1 : (some false) = some r := by rw [if_neg (show ¬ (false = true) by decide)] at H; exact H
        clear H
        have H := H1
        clear H1
        obtain rfl := Option.some.inj H
        have p129 : 0 ≤ (x14_1 : Int) := of_decide_eq_true (by first | (with_reducible assumption) | assumption)
        have q129 : x14_1 < (l0_0.length : Int) := of_decide_eq_true (by first | (with_reducible assumption) | assumption)
        obtain ⟨ad129, A129_0, c129_0, e129, hx129_0, hl129_0, hi129_0⟩ := at_L5 HR0_0.out x14_1 p129 q129
        cases e129
        replace hx129_0 := (HB.out.cell (World.block_lt_of_cell? w _ hx129_0)).trans hx129_0
        have HR129_0 := Aside0.mk hi129_0
        have HC129_0 := Aside0.mk hl129_0
        clear hi129_0 hl129_0
        replace p129 := eq_true p129
        replace q129 := eq_true q129
        go_wp2_with (first | ((with_reducible refine gate_callee (f := 40) rfl ?_); refine goesL_ (some 21) rfl rfl Tryz.func40 (by kernel_rfl) rfl #[.int .i64 x14_1, .slice A129_0 (rd_L5 l0_0 x14_1).length c129_0] rfl (by (try simp only [List.map_toArray, List.map_cons, List.map_nil]); first | done | rfl | (simp only [List.length_drop, List.length_take]; rfl)) ?_; (with_reducible refine (spec_Good.calls k1 x14_1 _ _ (rd_L5 l0_0 x14_1) false _ ?side1 ?side2 A8.out).mono ?_); (case side1 => repeat (first | exact (Kd.C_below HR129_0.out HB.out) | (with_reducible refine Kd.C_alloc ?_ _) | (with_reducible refine Kd.C_drewN ?_ _) | (with_reducible refine Kd.C_drew ?_))); (case side2 => exact HC129_0.out); rintro e w11 ⟨rfl, hb⟩; refine ⟨_, rfl, ?_⟩; have n0_ := Aside0.mk (blk_below (g := gb128) (o := .cells #[.slice (some ad129) l0_0.length c0_0, .bool a0_1] 30 (0, 0)) (by (with_reducible repeat (first | refine blk_drewN ?_ _ | refine blk_drew ?_ | refine blk_alloc ?_ _)); exact BK128.out) hb); have n1_ := Aside0.mk (below_step (by repeat (first | (with_reducible first | exact HB.out | apply below_alloc | apply pw_below_drewN | apply below_drew1 | refine below_set ?_ GE128.out) | exact HB.out)) hb); clear BK128; clear HB; have BK128 := n0_; have HB := n1_; clear n0_ n1_; (try clear hb); (try clear hb2); (try clear hk); (try clear hi)))
        go_ret
        exact ⟨by first | rfl | (simp [errW_none, errW_some] <;> rfl) | (simp [*, errW_none, errW_some] <;> rfl), by repeat (first | (with_reducible first | exact HB.out | apply below_alloc | apply pw_below_drewN | apply below_drew1 | refine below_set ?_ GE128.out) | exact HB.out)⟩
      ·rw [if_neg c7] at H
       exact absurd H (by simp)
     ·rw [if_neg c6] at H
      exact absurd H (by simp)
    ·rw [if_neg c5] at H
     have c5b0 : decide (x14_1 < (l0_0.length : Int)) = false := decide_eq_false c5
     clear c5
     have HC12 := Aside0.mk H
     clear H
     go_upto_region 9 with (fail)
     go_cut [44] (fun v44 wc => ∃ (kq : Nat) (x44_11 : Bool), v44 = .bool x44_11 ∧ Aside0 (spec_ExprGood.j1 kq x44_11 l0_0 a0_1 = some r) ∧ Aside0 (kq ≤ k1) ∧ Aside0 (wc.heap[gb128]? = some (.cells #[(.slice A0_0 l0_0.length c0_0), .bool a0_1] 30 (0, 0))) ∧ Aside0 (Below w.heap.size w wc))
     case first =>
      have H := HC12.out
      clear HC12
      by_cases c13 : a0_1 = true
      ·subst c13
       have H1 : (spec_ExprGood.j1 k1 false l0_0 true) = some r := by rw [if_pos rfl] at H; exact H
       clear H
       have H := H1
       clear H1
       have H' := Aside0.mk H
       clear H
       have hcz14_0 : wr.cell? ⟨gb128, 0, none⟩ = some (.slice A0_0 l0_0.length c0_0) := (blk_cell BK128.out 0).trans rfl
       have hcz14_1 : wr.cell? ⟨gb128, 1, none⟩ = some (.bool true) := (blk_cell BK128.out 1).trans rfl
       have hfz14_0 := blk_frozen BK128.out 0
       have hfz14_1 := blk_frozen BK128.out 1
       go_wp2
       go_meet
       case rel => exact ⟨_, (false), (by first | rfl | (simp; done) | (simp [*]; done)), H', ⟨by have := HK1.out; first | omega | exact Nat.le_refl _⟩, ⟨by (with_reducible repeat (first | refine blk_drewN ?_ _ | refine blk_drew ?_ | refine blk_alloc ?_ _)); exact BK128.out⟩, ⟨by repeat (first | (with_reducible first | exact HB.out | apply below_alloc | apply pw_below_drewN | apply below_drew1 | refine below_set ?_ GE128.out) | exact HB.out)⟩⟩
      ·replace c13 := Bool.eq_false_iff.mpr c13
       subst c13
       have H1 : (if 0 < (l0_0.length : Int) then (if ((rd_L5 l0_0 0).length : Int) = 1 then (if 0 < ((rd_L5 l0_0 0).length : Int) then (spec_ExprGood.j1 k1 (((rd_T38 (rd_L5 l0_0 0) 0).f0) || (!(((rd_T38 (rd_L5 l0_0 0) 0).f1) == 0) || (!(((rd_T38 (rd_L5 l0_0 0) 0).f2) == 0) || (!(((rd_T38 (rd_L5 l0_0 0) 0).f3) == 1))))) l0_0 false) else (none)) else (spec_ExprGood.j1 k1 true l0_0 false)) else (none)) = some r := by rw [if_neg (show ¬ (false = true) by decide)] at H; exact H
       clear H
       have H := H1
       clear H1
       by_cases c15 : 0 < (l0_0.length : Int)
       ·rw [if_pos c15] at H
        have c15b0 : decide (0 < (l0_0.length : Int)) = true := decide_eq_true c15
        have c15b1 : decide (0 < l0_0.length) = true := decide_eq_true (by omega)
        clear c15
        (first | rw [c15b0] | (simp only [i64_w, i32_w]; rw [c15b0]) | skip)
        by_cases c16 : ((rd_L5 l0_0 0).length : Int) = 1
        ·rw [if_pos c16] at H
         have c16b0 : (((rd_L5 l0_0 0).length : Int) == 1) = true := beq_iff_eq.mpr c16
         have c16b1 : (((rd_L5 l0_0 0).length : Int) != 1) = false := bne_eq_false_iff_eq.mpr c16
         clear c16
         by_cases c17 : 0 < ((rd_L5 l0_0 0).length : Int)
         ·rw [if_pos c17] at H
          have c17b0 : decide (0 < ((rd_L5 l0_0 0).length : Int)) = true := decide_eq_true c17
          have c17b1 : decide (0 < (rd_L5 l0_0 0).length) = true := decide_eq_true (by omega)
          clear c17
          have H' := Aside0.mk H
          clear H
          have hcz18_0 : wr.cell? ⟨gb128, 0, none⟩ = some (.slice A0_0 l0_0.length c0_0) := (blk_cell BK128.out 0).trans rfl
          have hcz18_1 : wr.cell? ⟨gb128, 1, none⟩ = some (.bool false) := (blk_cell BK128.out 1).trans rfl
          have hfz18_0 := blk_frozen BK128.out 0
          have hfz18_1 := blk_frozen BK128.out 1
          have p131 : 0 ≤ (0 : Int) := (by omega)
          have q131 : 0 < (l0_0.length : Int) := of_decide_eq_true (by first | (with_reducible assumption) | assumption)
          obtain ⟨ad131, A131_0, c131_0, e131, hx131_0, hl131_0, hi131_0⟩ := at_L5 HR0_0.out 0 p131 q131
          cases e131
          have qi131 : (0 < l0_0.length) = True := eq_true (by omega)
          (try rw [show ((0 : Int)).toNat = 0 from rfl] at hx131_0)
          (try rw [Addr.add_zero'] at hx131_0)
          replace hx131_0 := (HB.out.cell (World.block_lt_of_cell? w _ hx131_0)).trans hx131_0
          have HR131_0 := Aside0.mk hi131_0
          have HC131_0 := Aside0.mk hl131_0
          clear hi131_0 hl131_0
          replace p131 := eq_true p131
          replace q131 := eq_true q131
          have p132 : 0 ≤ (0 : Int) := (by omega)
          have q132 : 0 < (l0_0.length : Int) := of_decide_eq_true (by first | (with_reducible assumption) | assumption)
          obtain ⟨ad132, A132_0, c132_0, e132, hx132_0, hl132_0, hi132_0⟩ := at_L5 HR0_0.out 0 p132 q132
          obtain rfl : ad131 = ad132 := (by injection e132)
          have qi132 : (0 < l0_0.length) = True := eq_true (by omega)
          (try rw [show ((0 : Int)).toNat = 0 from rfl] at hx132_0)
          (try rw [Addr.add_zero'] at hx132_0)
          replace hx132_0 := (HB.out.cell (World.block_lt_of_cell? w _ hx132_0)).trans hx132_0
          have HR132_0 := Aside0.mk hi132_0
          have HC132_0 := Aside0.mk hl132_0
          clear hi132_0 hl132_0
          replace p132 := eq_true p132
          replace q132 := eq_true q132
          have ea_ := Option.some.inj (hx131_0.symm.trans hx132_0)
          injection ea_ with ea_ en_ ec_
          subst ea_
          subst ec_
          clear en_
          have p133 : 0 ≤ (0 : Int) := (by omega)
          have q133 : 0 < ((rd_L5 l0_0 0).length : Int) := of_decide_eq_true (by first | (with_reducible assumption) | assumption)
          obtain ⟨ad133, e133, hx133_0, hx133_1, hx133_2, hx133_3⟩ := at_T38 HR132_0.out 0 p133 q133
          cases e133
          have qi133 : (0 < (rd_L5 l0_0 0).length) = True := eq_true (by omega)
          (try rw [show ((0 : Int)).toNat = 0 from rfl] at hx133_0)
          (try rw [show 0 * 4 = 0 from rfl] at hx133_0)
          (try rw [Addr.add_zero'] at hx133_0)
          (try rw [show ((0 : Int)).toNat = 0 from rfl] at hx133_1)
          (try rw [show 0 * 4 = 0 from rfl] at hx133_1)
          (try rw [Addr.add_zero'] at hx133_1)
          (try rw [show ((0 : Int)).toNat = 0 from rfl] at hx133_2)
          (try rw [show 0 * 4 = 0 from rfl] at hx133_2)
          (try rw [Addr.add_zero'] at hx133_2)
          (try rw [show ((0 : Int)).toNat = 0 from rfl] at hx133_3)
          (try rw [show 0 * 4 = 0 from rfl] at hx133_3)
          (try rw [Addr.add_zero'] at hx133_3)
          replace hx133_0 := (HB.out.cell (World.block_lt_of_cell? w _ hx133_0)).trans hx133_0
          replace hx133_1 := (HB.out.cell (World.block_lt_of_cell? w _ hx133_1)).trans hx133_1
          replace hx133_2 := (HB.out.cell (World.block_lt_of_cell? w _ hx133_2)).trans hx133_2
          replace hx133_3 := (HB.out.cell (World.block_lt_of_cell? w _ hx133_3)).trans hx133_3
          replace p133 := eq_true p133
          replace q133 := eq_true q133
          go_wp2
          go_meet
          case rel => exact ⟨_, ((((rd_T38 (rd_L5 l0_0 0) 0).f0) || (!(((rd_T38 (rd_L5 l0_0 0) 0).f1) == 0) || (!(((rd_T38 (rd_L5 l0_0 0) 0).f2) == 0) || (!(((rd_T38 (rd_L5 l0_0 0) 0).f3) == 1)))))), (by first | rfl | (simp; done) | (simp [*]; done)), H', ⟨by have := HK1.out; first | omega | exact Nat.le_refl _⟩, ⟨by (with_reducible repeat (first | refine blk_drewN ?_ _ | refine blk_drew ?_ | refine blk_alloc ?_ _)); exact BK128.out⟩, ⟨by repeat (first | (with_reducible first | exact HB.out | apply below_alloc | apply pw_below_drewN | apply below_drew1 | refine below_set ?_ GE128.out) | exact HB.out)⟩⟩
         ·rw [if_neg c17] at H
          exact absurd H (by simp)
        ·rw [if_neg c16] at H
         have c16b0 : (((rd_L5 l0_0 0).length : Int) == 1) = false := beq_eq_false_iff_ne.mpr c16
         have c16b1 : (((rd_L5 l0_0 0).length : Int) != 1) = true := bne_iff_ne.mpr c16
         have H' := Aside0.mk H
         clear H
         have hcz19_0 : wr.cell? ⟨gb128, 0, none⟩ = some (.slice A0_0 l0_0.length c0_0) := (blk_cell BK128.out 0).trans rfl
         have hcz19_1 : wr.cell? ⟨gb128, 1, none⟩ = some (.bool false) := (blk_cell BK128.out 1).trans rfl
         have hfz19_0 := blk_frozen BK128.out 0
         have hfz19_1 := blk_frozen BK128.out 1
         have p131 : 0 ≤ (0 : Int) := (by omega)
         have q131 : 0 < (l0_0.length : Int) := of_decide_eq_true (by first | (with_reducible assumption) | assumption)
         obtain ⟨ad131, A131_0, c131_0, e131, hx131_0, hl131_0, hi131_0⟩ := at_L5 HR0_0.out 0 p131 q131
         cases e131
         have qi131 : (0 < l0_0.length) = True := eq_true (by omega)
         (try rw [show ((0 : Int)).toNat = 0 from rfl] at hx131_0)
         (try rw [Addr.add_zero'] at hx131_0)
         replace hx131_0 := (HB.out.cell (World.block_lt_of_cell? w _ hx131_0)).trans hx131_0
         have HR131_0 := Aside0.mk hi131_0
         have HC131_0 := Aside0.mk hl131_0
         clear hi131_0 hl131_0
         replace p131 := eq_true p131
         replace q131 := eq_true q131
         go_wp2
         go_meet
         case rel => exact ⟨_, (true), (by first | rfl | (simp; done) | (simp [*]; done)), H', ⟨by have := HK1.out; first | omega | exact Nat.le_refl _⟩, ⟨by (with_reducible repeat (first | refine blk_drewN ?_ _ | refine blk_drew ?_ | refine blk_alloc ?_ _)); exact BK128.out⟩, ⟨by repeat (first | (with_reducible first | exact HB.out | apply below_alloc | apply pw_below_drewN | apply below_drew1 | refine below_set ?_ GE128.out) | exact HB.out)⟩⟩
       ·rw [if_neg c15] at H
        exact absurd H (by simp)
     case rest =>
      clear HC12
      obtain ⟨kq, x44_11, rfl, HA, HJ11, BK128, HB⟩ := hcut
      cases kq with
      | zero => exact absurd HA.out (by simp [spec_ExprGood.j1])
      | succ kj11 =>
       have H := HA.out
       clear HA
       simp only [spec_ExprGood.j1] at H
       by_cases c20 : x44_11 = true
       ·subst c20
        have H1 : (some false) = some r := by rw [if_pos rfl] at H; exact H
        clear H
        have H := H1
        clear H1
        obtain rfl := Option.some.inj H
        go_wp2
        go_ret
        exact ⟨by first | rfl | (simp [errW_none, errW_some] <;> rfl) | (simp [*, errW_none, errW_some] <;> rfl), by repeat (first | (with_reducible first | exact HB.out | apply below_alloc | apply pw_below_drewN | apply below_drew1 | refine below_set ?_ GE128.out) | exact HB.out)⟩
       ·replace c20 := Bool.eq_false_iff.mpr c20
        subst c20
        have H1 : (if 3 < (l0_0.length : Int) then ((spec_Star.f (rd_L5 l0_0 3)).bind fun t135 => (if t135 = true then (spec_ExprGood.j2 kj11 false l0_0 a0_1) else (if 5 < (l0_0.length : Int) then ((spec_Star.f (rd_L5 l0_0 5)).bind fun t137 => (spec_ExprGood.j2 kj11 (!t137) l0_0 a0_1)) else (none)))) else (none)) = some r := by rw [if_neg (show ¬ (false = true) by decide)] at H; exact H
        clear H
        have H := H1
        clear H1
        have HC21 := Aside0.mk H
        clear H
        go_upto_region 11 with (fail)
        go_cut [58] (fun v58 wc => ∃ (kq : Nat) (x58_20 : Bool), v58 = .bool x58_20 ∧ Aside0 (spec_ExprGood.j2 kq x58_20 l0_0 a0_1 = some r) ∧ Aside0 (kq ≤ kj11) ∧ Aside0 (wc.heap[gb128]? = some (.cells #[(.slice A0_0 l0_0.length c0_0), .bool a0_1] 30 (0, 0))) ∧ Aside0 (Below w.heap.size w wc))
        case first =>
         have H := HC21.out
         clear HC21
         by_cases c22 : 3 < (l0_0.length : Int)
         ·rw [if_pos c22] at H
          have c22b0 : decide (3 < (l0_0.length : Int)) = true := decide_eq_true c22
          have c22b1 : decide (3 < l0_0.length) = true := decide_eq_true (by omega)
          clear c22
          (first | rw [c22b0] | (simp only [i64_w, i32_w]; rw [c22b0]) | skip)
          replace H := Option.bind_eq_some_iff.mp H
          obtain ⟨t135, A230, H⟩ := H
          replace H : (if t135 = true then (spec_ExprGood.j2 kj11 false l0_0 a0_1) else (if 5 < (l0_0.length : Int) then ((spec_Star.f (rd_L5 l0_0 5)).bind fun t137 => (spec_ExprGood.j2 kj11 (!t137) l0_0 a0_1)) else (none))) = some r := H
          have A23 := Aside0.mk A230
          clear A230
          by_cases c24 : t135 = true
          ·subst c24
           have H1 : (spec_ExprGood.j2 kj11 false l0_0 a0_1) = some r := by rw [if_pos rfl] at H; exact H
           clear H
           have H := H1
           clear H1
           have H' := Aside0.mk H
           clear H
           have hcz25_0 : wc.cell? ⟨gb128, 0, none⟩ = some (.slice A0_0 l0_0.length c0_0) := (blk_cell BK128.out 0).trans rfl
           have hcz25_1 : wc.cell? ⟨gb128, 1, none⟩ = some (.bool a0_1) := (blk_cell BK128.out 1).trans rfl
           have hfz25_0 := blk_frozen BK128.out 0
           have hfz25_1 := blk_frozen BK128.out 1
           have p134 : 0 ≤ (3 : Int) := (by omega)
           have q134 : 3 < (l0_0.length : Int) := of_decide_eq_true (by first | (with_reducible assumption) | assumption)
           obtain ⟨ad134, A134_0, c134_0, e134, hx134_0, hl134_0, hi134_0⟩ := at_L5 HR0_0.out 3 p134 q134
           cases e134
           (try simp only [show (3 : Int).toNat = 3 from rfl, Nat.reduceMul, Nat.reduceEqDiff, Go.Addr.add, ↓reduceIte] at hx134_0)
           have qi134 : (3 < l0_0.length) = True := eq_true (by omega)
           (try rw [show ((3 : Int)).toNat = 3 from rfl] at hx134_0)
           replace hx134_0 := (HB.out.cell (World.block_lt_of_cell? w _ hx134_0)).trans hx134_0
           have HR134_0 := Aside0.mk hi134_0
           have HC134_0 := Aside0.mk hl134_0
           clear hi134_0 hl134_0
           replace p134 := eq_true p134
           replace q134 := eq_true q134
           go_wp2_with (first | ((with_reducible refine gate_callee (f := 17) rfl ?_); refine goesL_ (some 49) rfl rfl Tryz.func17 (by kernel_rfl) rfl #[.slice A134_0 (rd_L5 l0_0 3).length c134_0] rfl (by (try simp only [List.map_toArray, List.map_cons, List.map_nil]); first | done | rfl | (simp only [List.length_drop, List.length_take]; rfl)) ?_; (with_reducible refine (spec_Star.calls _ _ (rd_L5 l0_0 3) true _ ?side1 ?side2 A23.out).mono ?_); (case side1 => repeat (first | exact (Kd.C_below HR134_0.out HB.out) | (with_reducible refine Kd.C_alloc ?_ _) | (with_reducible refine Kd.C_drewN ?_ _) | (with_reducible refine Kd.C_drew ?_))); (case side2 => exact HC134_0.out); rintro e w' ⟨rfl, ⟨nd, rfl⟩⟩; refine ⟨_, rfl, ?_⟩))
           go_meet
           case rel => exact ⟨_, (false), (by first | rfl | (simp; done) | (simp [*]; done)), H', ⟨by have := HK1.out; have := HJ11.out; first | omega | exact Nat.le_refl _⟩, ⟨by (with_reducible repeat (first | refine blk_drewN ?_ _ | refine blk_drew ?_ | refine blk_alloc ?_ _)); exact BK128.out⟩, ⟨by repeat (first | (with_reducible first | exact HB.out | apply below_alloc | apply pw_below_drewN | apply below_drew1 | refine below_set ?_ GE128.out) | exact HB.out)⟩⟩
          ·replace c24 := Bool.eq_false_iff.mpr c24
           subst c24
           have H1 : (if 5 < (l0_0.length : Int) then ((spec_Star.f (rd_L5 l0_0 5)).bind fun t137 => (spec_ExprGood.j2 kj11 (!t137) l0_0 a0_1)) else (none)) = some r := by rw [if_neg (show ¬ (false = true) by decide)] at H; exact H
           clear H
           have H := H1
           clear H1
           by_cases c26 : 5 < (l0_0.length : Int)
           ·rw [if_pos c26] at H
            have c26b0 : decide (5 < (l0_0.length : Int)) = true := decide_eq_true c26
            have c26b1 : decide (5 < l0_0.length) = true := decide_eq_true (by omega)
            clear c26
            replace H := Option.bind_eq_some_iff.mp H
            obtain ⟨t137, A270, H⟩ := H
            replace H : (spec_ExprGood.j2 kj11 (!t137) l0_0 a0_1) = some r := H
            have A27 := Aside0.mk A270
            clear A270
            have H' := Aside0.mk H
            clear H
            have hcz28_0 : wc.cell? ⟨gb128, 0, none⟩ = some (.slice A0_0 l0_0.length c0_0) := (blk_cell BK128.out 0).trans rfl
            have hcz28_1 : wc.cell? ⟨gb128, 1, none⟩ = some (.bool a0_1) := (blk_cell BK128.out 1).trans rfl
            have hfz28_0 := blk_frozen BK128.out 0
            have hfz28_1 := blk_frozen BK128.out 1
            have p134 : 0 ≤ (3 : Int) := (by omega)
            have q134 : 3 < (l0_0.length : Int) := of_decide_eq_true (by first | (with_reducible assumption) | assumption)
            obtain ⟨ad134, A134_0, c134_0, e134, hx134_0, hl134_0, hi134_0⟩ := at_L5 HR0_0.out 3 p134 q134
            cases e134
            (try simp only [show (3 : Int).toNat = 3 from rfl, Nat.reduceMul, Nat.reduceEqDiff, Go.Addr.add, ↓reduceIte] at hx134_0)
            have qi134 : (3 < l0_0.length) = True := eq_true (by omega)
            (try rw [show ((3 : Int)).toNat = 3 from rfl] at hx134_0)
            replace hx134_0 := (HB.out.cell (World.block_lt_of_cell? w _ hx134_0)).trans hx134_0
            have HR134_0 := Aside0.mk hi134_0
            have HC134_0 := Aside0.mk hl134_0
            clear hi134_0 hl134_0
            replace p134 := eq_true p134
            replace q134 := eq_true q134
            go_wp2_with (first | ((with_reducible refine gate_callee (f := 17) rfl ?_); refine goesL_ (some 49) rfl rfl Tryz.func17 (by kernel_rfl) rfl #[.slice A134_0 (rd_L5 l0_0 3).length c134_0] rfl (by (try simp only [List.map_toArray, List.map_cons, List.map_nil]); first | done | rfl | (simp only [List.length_drop, List.length_take]; rfl)) ?_; (with_reducible refine (spec_Star.calls _ _ (rd_L5 l0_0 3) false _ ?side1 ?side2 A23.out).mono ?_); (case side1 => repeat (first | exact (Kd.C_below HR134_0.out HB.out) | (with_reducible refine Kd.C_alloc ?_ _) | (with_reducible refine Kd.C_drewN ?_ _) | (with_reducible refine Kd.C_drew ?_))); (case side2 => exact HC134_0.out); rintro e w' ⟨rfl, ⟨nd, rfl⟩⟩; refine ⟨_, rfl, ?_⟩; have p136 : 0 ≤ (5 : Int) := (by omega); have q136 : 5 < (l0_0.length : Int) := of_decide_eq_true (by first | (with_reducible assumption) | assumption); obtain ⟨ad136, A136_0, c136_0, e136, hx136_0, hl136_0, hi136_0⟩ := at_L5 HR0_0.out 5 p136 q136; obtain rfl : ad134 = ad136 := (by injection e136); (try simp only [show (5 : Int).toNat = 5 from rfl, Nat.reduceMul, Nat.reduceEqDiff, Go.Addr.add, ↓reduceIte] at hx136_0); have qi136 : (5 < l0_0.length) = True := eq_true (by omega); (try rw [show ((5 : Int)).toNat = 5 from rfl] at hx136_0); replace hx136_0 := (HB.out.cell (World.block_lt_of_cell? w _ hx136_0)).trans hx136_0; have HR136_0 := Aside0.mk hi136_0; have HC136_0 := Aside0.mk hl136_0; clear hi136_0 hl136_0; replace p136 := eq_true p136; replace q136 := eq_true q136) | (go_at_call 17; (with_reducible refine (spec_Star.calls _ _ (rd_L5 l0_0 5) t137 _ ?side1 ?side2 A27.out).mono ?_); (case side1 => repeat (first | exact (Kd.C_below HR136_0.out (by repeat (first | (with_reducible first | exact HB.out | apply below_alloc | apply pw_below_drewN | apply below_drew1 | refine below_set ?_ GE128.out) | exact HB.out))) | (with_reducible refine Kd.C_alloc ?_ _) | (with_reducible refine Kd.C_drewN ?_ _) | (with_reducible refine Kd.C_drew ?_))); (case side2 => exact HC136_0.out); rintro e w' ⟨rfl, ⟨nd, rfl⟩⟩))
            go_meet
            case rel => exact ⟨_, (!t137), (by first | rfl | (simp; done) | (simp [*]; done)), H', ⟨by have := HK1.out; have := HJ11.out; first | omega | exact Nat.le_refl _⟩, ⟨by (with_reducible repeat (first | refine blk_drewN ?_ _ | refine blk_drew ?_ | refine blk_alloc ?_ _)); exact BK128.out⟩, ⟨by repeat (first | (with_reducible first | exact HB.out | apply below_alloc | apply pw_below_drewN | apply below_drew1 | refine below_set ?_ GE128.out) | exact HB.out)⟩⟩
           ·rw [if_neg c26] at H
            exact absurd H (by simp)
         ·rw [if_neg c22] at H
          exact absurd H (by simp)
        case rest =>
         clear HC21
         obtain ⟨kq, x58_20, rfl, HA, HJ20, BK128, HB⟩ := hcut
         cases kq with
         | zero => exact absurd HA.out (by simp [spec_ExprGood.j2])
         | succ kj20 =>
          have H := HA.out
          clear HA
          simp only [spec_ExprGood.j2] at H
          by_cases c29 : x58_20 = true
          ·subst c29
           have H1 : (some false) = some r := by rw [if_pos rfl] at H; exact H
           clear H
           have H := H1
           clear H1
           obtain rfl := Option.some.inj H
           go_wp2
           go_ret
           exact ⟨by first | rfl | (simp [errW_none, errW_some] <;> rfl) | (simp [*, errW_none, errW_some] <;> rfl), by repeat (first | (with_reducible first | exact HB.out | apply below_alloc | apply pw_below_drewN | apply below_drew1 | refine below_set ?_ GE128.out) | exact HB.out)⟩
          ·replace c29 := Bool.eq_false_iff.mpr c29
           subst c29
           have H1 : (if 4 < (l0_0.length : Int) then ((spec_Star.f (rd_L5 l0_0 4)).bind fun t139 => (if t139 = true then (some true) else (if 3 < (l0_0.length : Int) then (spec_ExprGood.l1 kj20 (rd_L5 l0_0 3) ((rd_L5 l0_0 3).length : Int) 0) else (none)))) else (none)) = some r := by rw [if_neg (show ¬ (false = true) by decide)] at H; exact H
           clear H
           have H := H1
           clear H1
           by_cases c30 : 4 < (l0_0.length : Int)
           ·rw [if_pos c30] at H
            have c30b0 : decide (4 < (l0_0.length : Int)) = true := decide_eq_true c30
            have c30b1 : decide (4 < l0_0.length) = true := decide_eq_true (by omega)
            clear c30
            replace H := Option.bind_eq_some_iff.mp H
            obtain ⟨t139, A310, H⟩ := H
            replace H : (if t139 = true then (some true) else (if 3 < (l0_0.length : Int) then (spec_ExprGood.l1 kj20 (rd_L5 l0_0 3) ((rd_L5 l0_0 3).length : Int) 0) else (none))) = some r := H
            have A31 := Aside0.mk A310
            clear A310
            by_cases c32 : t139 = true
            ·subst c32
             have H1 : (some true) = some r := by rw [if_pos rfl] at H; exact H
             clear H
             have H := H1
             clear H1
             obtain rfl := Option.some.inj H
             have hcz33_0 : wc.cell? ⟨gb128, 0, none⟩ = some (.slice A0_0 l0_0.length c0_0) := (blk_cell BK128.out 0).trans rfl
             have hcz33_1 : wc.cell? ⟨gb128, 1, none⟩ = some (.bool a0_1) := (blk_cell BK128.out 1).trans rfl
             have hfz33_0 := blk_frozen BK128.out 0
             have hfz33_1 := blk_frozen BK128.out 1
             have p138 : 0 ≤ (4 : Int) := (by omega)
             have q138 : 4 < (l0_0.length : Int) := of_decide_eq_true (by first | (with_reducible assumption) | assumption)
             obtain ⟨ad138, A138_0, c138_0, e138, hx138_0, hl138_0, hi138_0⟩ := at_L5 HR0_0.out 4 p138 q138
             cases e138
             (try simp only [show (4 : Int).toNat = 4 from rfl, Nat.reduceMul, Nat.reduceEqDiff, Go.Addr.add, ↓reduceIte] at hx138_0)
             have qi138 : (4 < l0_0.length) = True := eq_true (by omega)
             (try rw [show ((4 : Int)).toNat = 4 from rfl] at hx138_0)
             replace hx138_0 := (HB.out.cell (World.block_lt_of_cell? w _ hx138_0)).trans hx138_0
             have HR138_0 := Aside0.mk hi138_0
             have HC138_0 := Aside0.mk hl138_0
             clear hi138_0 hl138_0
             replace p138 := eq_true p138
             replace q138 := eq_true q138
             go_wp2_with (first | ((with_reducible refine gate_callee (f := 17) rfl ?_); refine goesL_ (some 63) rfl rfl Tryz.func17 (by kernel_rfl) rfl #[.slice A138_0 (rd_L5 l0_0 4).length c138_0] rfl (by (try simp only [List.map_toArray, List.map_cons, List.map_nil]); first | done | rfl | (simp only [List.length_drop, List.length_take]; rfl)) ?_; (with_reducible refine (spec_Star.calls _ _ (rd_L5 l0_0 4) true _ ?side1 ?side2 A31.out).mono ?_); (case side1 => repeat (first | exact (Kd.C_below HR138_0.out HB.out) | (with_reducible refine Kd.C_alloc ?_ _) | (with_reducible refine Kd.C_drewN ?_ _) | (with_reducible refine Kd.C_drew ?_))); (case side2 => exact HC138_0.out); rintro e w' ⟨rfl, ⟨nd, rfl⟩⟩; refine ⟨_, rfl, ?_⟩))
             go_ret
             exact ⟨by first | rfl | (simp [errW_none, errW_some] <;> rfl) | (simp [*, errW_none, errW_some] <;> rfl), by repeat (first | (with_reducible first | exact HB.out | apply below_alloc | apply pw_below_drewN | apply below_drew1 | refine below_set ?_ GE128.out) | exact HB.out)⟩
            ·replace c32 := Bool.eq_false_iff.mpr c32
             subst c32
             have H1 : (if 3 < (l0_0.length : Int) then (spec_ExprGood.l1 kj20 (rd_L5 l0_0 3) ((rd_L5 l0_0 3).length : Int) 0) else (none)) = some r := by rw [if_neg (show ¬ (false = true) by decide)] at H; exact H
             clear H
             have H := H1
             clear H1
             by_cases c34 : 3 < (l0_0.length : Int)
             ·rw [if_pos c34] at H
              have c34b0 : decide (3 < (l0_0.length : Int)) = true := decide_eq_true c34
              have c34b1 : decide (3 < l0_0.length) = true := decide_eq_true (by omega)
              clear c34
              have H' := Aside0.mk H
              clear H
              have hcz35_0 : wc.cell? ⟨gb128, 0, none⟩ = some (.slice A0_0 l0_0.length c0_0) := (blk_cell BK128.out 0).trans rfl
              have hcz35_1 : wc.cell? ⟨gb128, 1, none⟩ = some (.bool a0_1) := (blk_cell BK128.out 1).trans rfl
              have hfz35_0 := blk_frozen BK128.out 0
              have hfz35_1 := blk_frozen BK128.out 1
              have p138 : 0 ≤ (4 : Int) := (by omega)
              have q138 : 4 < (l0_0.length : Int) := of_decide_eq_true (by first | (with_reducible assumption) | assumption)
              obtain ⟨ad138, A138_0, c138_0, e138, hx138_0, hl138_0, hi138_0⟩ := at_L5 HR0_0.out 4 p138 q138
              cases e138
              (try simp only [show (4 : Int).toNat = 4 from rfl, Nat.reduceMul, Nat.reduceEqDiff, Go.Addr.add, ↓reduceIte] at hx138_0)
              have qi138 : (4 < l0_0.length) = True := eq_true (by omega)
              (try rw [show ((4 : Int)).toNat = 4 from rfl] at hx138_0)
              replace hx138_0 := (HB.out.cell (World.block_lt_of_cell? w _ hx138_0)).trans hx138_0
              have HR138_0 := Aside0.mk hi138_0
              have HC138_0 := Aside0.mk hl138_0
              clear hi138_0 hl138_0
              replace p138 := eq_true p138
              replace q138 := eq_true q138
              go_wp2_with (first | ((with_reducible refine gate_callee (f := 17) rfl ?_); refine goesL_ (some 63) rfl rfl Tryz.func17 (by kernel_rfl) rfl #[.slice A138_0 (rd_L5 l0_0 4).length c138_0] rfl (by (try simp only [List.map_toArray, List.map_cons, List.map_nil]); first | done | rfl | (simp only [List.length_drop, List.length_take]; rfl)) ?_; (with_reducible refine (spec_Star.calls _ _ (rd_L5 l0_0 4) false _ ?side1 ?side2 A31.out).mono ?_); (case side1 => repeat (first | exact (Kd.C_below HR138_0.out HB.out) | (with_reducible refine Kd.C_alloc ?_ _) | (with_reducible refine Kd.C_drewN ?_ _) | (with_reducible refine Kd.C_drew ?_))); (case side2 => exact HC138_0.out); rintro e w' ⟨rfl, ⟨nd, rfl⟩⟩; refine ⟨_, rfl, ?_⟩; have p140 : 0 ≤ (3 : Int) := (by omega); have q140 : 3 < (l0_0.length : Int) := of_decide_eq_true (by first | (with_reducible assumption) | assumption); obtain ⟨ad140, A140_0, c140_0, e140, hx140_0, hl140_0, hi140_0⟩ := at_L5 HR0_0.out 3 p140 q140; obtain rfl : ad138 = ad140 := (by injection e140); (try simp only [show (3 : Int).toNat = 3 from rfl, Nat.reduceMul, Nat.reduceEqDiff, Go.Addr.add, ↓reduceIte] at hx140_0); have qi140 : (3 < l0_0.length) = True := eq_true (by omega); (try rw [show ((3 : Int)).toNat = 3 from rfl] at hx140_0); replace hx140_0 := (HB.out.cell (World.block_lt_of_cell? w _ hx140_0)).trans hx140_0; have HR140_0 := Aside0.mk hi140_0; have HC140_0 := Aside0.mk hl140_0; clear hi140_0 hl140_0; replace p140 := eq_true p140; replace q140 := eq_true q140))
              go_loopg [70] kj20 (fun kq v70 w' => ∃ (x70_4 : Int), v70 = .int .i64 x70_4 ∧ Aside0 (spec_ExprGood.l1 kq (rd_L5 l0_0 3) ((rd_L5 l0_0 3).length : Int) x70_4 = some r) ∧ Aside0 (kq ≤ kj20) ∧ Aside0 (w'.heap[gb128]? = some (.cells #[(.slice (some ad138) l0_0.length c0_0), .bool a0_1] 30 (0, 0))) ∧ Aside0 (Below w.heap.size w w'))
              case atStart => exact ⟨(0), (by first | rfl | (simp; done) | (simp [*]; done)), H', ⟨Nat.le_refl _⟩, ⟨by (with_reducible repeat (first | refine blk_drewN ?_ _ | refine blk_drew ?_ | refine blk_alloc ?_ _)); exact BK128.out⟩, ⟨by repeat (first | (with_reducible first | exact HB.out | apply below_alloc | apply pw_below_drewN | apply below_drew1 | refine below_set ?_ GE128.out) | exact HB.out)⟩⟩
              case round =>
               clear H'
               obtain ⟨x70_4, rfl, HA, HK4, BK128, HB⟩ := hrel
               cases gk with
               | zero => exact absurd HA.out (by simp [spec_ExprGood.l1])
               | succ k4 =>
                have H := HA.out
                clear HA
                simp only [spec_ExprGood.l1] at H
                by_cases c36 : x70_4 < ((rd_L5 l0_0 3).length : Int)
                ·rw [if_pos c36] at H
                 have c36b0 : decide (x70_4 < ((rd_L5 l0_0 3).length : Int)) = true := decide_eq_true c36
                 clear c36
                 by_cases c37 : 0 ≤ x70_4
                 ·rw [if_pos c37] at H
                  have c37b0 : decide (0 ≤ x70_4) = true := decide_eq_true c37
                  clear c37
                  by_cases c38 : x70_4 < ((rd_L5 l0_0 3).length : Int)
                  ·rw [if_pos c38] at H
                   have c38b0 : decide (x70_4 < ((rd_L5 l0_0 3).length : Int)) = true := decide_eq_true c38
                   clear c38
                   obtain ⟨bq39, hbq39⟩ : ∃ b_ : Bool, b_ = ((rd_T38 (rd_L5 l0_0 3) x70_4).f0) := ⟨_, rfl⟩
                   replace H : (if (bq39 = true) then (spec_ExprGood.l1 k4 (rd_L5 l0_0 3) ((rd_L5 l0_0 3).length : Int) (wrap64 (x70_4 + 1))) else (if ((rd_T38 (rd_L5 l0_0 3) x70_4).f1) > 28 then (some false) else (spec_ExprGood.l1 k4 (rd_L5 l0_0 3) ((rd_L5 l0_0 3).length : Int) (wrap64 (x70_4 + 1))))) = some r := by rw [← hbq39] at H; exact H
                   have Nbq39 := Aside0.mk hbq39
                   clear hbq39
                   by_cases c40 : (bq39 = true)
                   ·subst c40
                    have H1 : (spec_ExprGood.l1 k4 (rd_L5 l0_0 3) ((rd_L5 l0_0 3).length : Int) (wrap64 (x70_4 + 1))) = some r := by rw [if_pos rfl] at H; exact H
                    clear H
                    have H := H1
                    clear H1
                    have H' := Aside0.mk H
                    clear H
                    have p141 : 0 ≤ (x70_4 : Int) := of_decide_eq_true (by first | (with_reducible assumption) | assumption)
                    have q141 : x70_4 < ((rd_L5 l0_0 3).length : Int) := of_decide_eq_true (by first | (with_reducible assumption) | assumption)
                    obtain ⟨ad141, e141, hx141_0, hx141_1, hx141_2, hx141_3⟩ := at_T38 HR140_0.out x70_4 p141 q141
                    (try rw [← Nbq39.out] at hx141_0)
                    cases e141
                    replace hx141_0 := (HB.out.cell (World.block_lt_of_cell? w _ hx141_0)).trans hx141_0
                    replace hx141_1 := (HB.out.cell (World.block_lt_of_cell? w _ hx141_1)).trans hx141_1
                    replace hx141_2 := (HB.out.cell (World.block_lt_of_cell? w _ hx141_2)).trans hx141_2
                    replace hx141_3 := (HB.out.cell (World.block_lt_of_cell? w _ hx141_3)).trans hx141_3
                    replace p141 := eq_true p141
                    replace q141 := eq_true q141
                    go_wp2_with (first | ((with_reducible refine gate_dst (N := 6) rfl ?_); (try (refine gate_guard (by rfl) ?_; dsimp only)); refine box_event ?hg (N := 6) ?hd (cs := #[.bool false, .int .i64 0, .int .i64 0, .int .i64 0]) (t := 38) ?hr ?_; (case hd => rfl); (case hg => rfl); (case hr => first | (go_simp; done) | (go_simp; rfl)); intro gb142 hg w41 hbox hb; have n0_ := Aside0.mk (blk_below (g := gb128) (o := .cells #[.slice (some ad138) l0_0.length c0_0, .bool a0_1] 30 (0, 0)) (by (with_reducible repeat (first | refine blk_drewN ?_ _ | refine blk_drew ?_ | refine blk_alloc ?_ _)); exact BK128.out) hb); have n1_ := Aside0.mk (below_step (by repeat (first | (with_reducible first | exact HB.out | apply below_alloc | apply pw_below_drewN | apply below_drew1 | refine below_set ?_ GE128.out) | exact HB.out)) hb); have n2_ := Aside0.mk (hbox); have n3_ := Aside0.mk ((by rw [hg]; exact (below_size (by repeat (first | (with_reducible first | exact HB.out | apply below_alloc | apply pw_below_drewN | apply below_drew1 | refine below_set ?_ GE128.out) | exact HB.out))) : w.heap.size ≤ gb142)); have n4_ := Aside0.mk ((by rw [hg]; exact (below_size (by repeat (first | (with_reducible first | exact HB.out | apply below_alloc | apply pw_below_drewN | apply below_drew1 | refine below_set ?_ GE128.out) | exact HB.out))) : w.heap.size ≤ gb142)); have n5_ := Aside0.mk ((by rw [hg]; exact Nat.ne_of_lt (blk_lt (g := gb128) (o := .cells #[.slice (some ad138) l0_0.length c0_0, .bool a0_1] 30 (0, 0)) (by (with_reducible repeat (first | refine blk_drewN ?_ _ | refine blk_drew ?_ | refine blk_alloc ?_ _)); exact BK128.out)) : gb128 ≠ gb142)); have n6_ := Aside0.mk ((by rw [hg]; exact Nat.ne_of_gt (blk_lt (g := gb128) (o := .cells #[.slice (some ad138) l0_0.length c0_0, .bool a0_1] 30 (0, 0)) (by (with_reducible repeat (first | refine blk_drewN ?_ _ | refine blk_drew ?_ | refine blk_alloc ?_ _)); exact BK128.out)) : gb142 ≠ gb128)); clear BK128; clear HB; have BK128 := n0_; have HB := n1_; have BK142 := n2_; have GW142 := n3_; have GE142 := n4_; have NB128_142 := n5_; have NB142_128 := n6_; clear n0_ n1_ n2_ n3_ n4_ n5_ n6_; clear hb hbox hg; have hnb42 := NB142_128.out; have hnc42 := NB128_142.out; have hcz43_0 : w41.cell? ⟨gb142, 0, none⟩ = some (.bool false) := (blk_cell BK142.out 0).trans rfl; have hcz43_1 : w41.cell? ⟨gb142, 1, none⟩ = some (.int .i64 0) := (blk_cell BK142.out 1).trans rfl; have hcz43_2 : w41.cell? ⟨gb142, 2, none⟩ = some (.int .i64 0) := (blk_cell BK142.out 2).trans rfl; have hcz43_3 : w41.cell? ⟨gb142, 3, none⟩ = some (.int .i64 0) := (blk_cell BK142.out 3).trans rfl; have hfz43_0 := blk_frozen BK142.out 0; have hfz43_1 := blk_frozen BK142.out 1; have hfz43_2 := blk_frozen BK142.out 2; have hfz43_3 := blk_frozen BK142.out 3))
                    go_roundg k4
                    case measure => have := HK1.out; have := HJ11.out; have := HJ20.out; have := HK4.out; omega
                    case rel => exact ⟨(wrap64 (x70_4 + 1)), (by first | rfl | (simp; done) | (simp [*]; done)), H', ⟨by have := HK1.out; have := HJ11.out; have := HJ20.out; have := HK4.out; omega⟩, ⟨by (with_reducible repeat (first | refine blk_drewN ?_ _ | refine blk_drew ?_ | refine blk_alloc ?_ _)); refine blk_far ?_ NB128_142.out _; (with_reducible repeat (first | refine blk_drewN ?_ _ | refine blk_drew ?_ | refine blk_alloc ?_ _)); refine blk_far ?_ NB128_142.out _; (with_reducible repeat (first | refine blk_drewN ?_ _ | refine blk_drew ?_ | refine blk_alloc ?_ _)); refine blk_far ?_ NB128_142.out _; (with_reducible repeat (first | refine blk_drewN ?_ _ | refine blk_drew ?_ | refine blk_alloc ?_ _)); refine blk_far ?_ NB128_142.out _; (with_reducible repeat (first | refine blk_drewN ?_ _ | refine blk_drew ?_ | refine blk_alloc ?_ _)); exact BK128.out⟩, ⟨by repeat (first | (with_reducible first | exact HB.out | apply below_alloc | apply pw_below_drewN | apply below_drew1 | refine below_set ?_ GE128.out | refine below_set ?_ GE142.out) | exact HB.out)⟩⟩
                   ·replace c40 := Bool.eq_false_iff.mpr c40
                    subst c40
                    have H1 : (if ((rd_T38 (rd_L5 l0_0 3) x70_4).f1) > 28 then (some false) else (spec_ExprGood.l1 k4 (rd_L5 l0_0 3) ((rd_L5 l0_0 3).length : Int) (wrap64 (x70_4 + 1)))) = some r := by rw [if_neg (show ¬ (false = true) by decide)] at H; exact H
                    clear H
                    have H := H1
                    clear H1
                    by_cases c44 : ((rd_T38 (rd_L5 l0_0 3) x70_4).f1) > 28
                    ·rw [if_pos c44] at H
                     have c44b0 : decide (28 < ((rd_T38 (rd_L5 l0_0 3) x70_4).f1)) = true := decide_eq_true c44
                     clear c44
                     obtain rfl := Option.some.inj H
                     have p141 : 0 ≤ (x70_4 : Int) := of_decide_eq_true (by first | (with_reducible assumption) | assumption)
                     have q141 : x70_4 < ((rd_L5 l0_0 3).length : Int) := of_decide_eq_true (by first | (with_reducible assumption) | assumption)
                     obtain ⟨ad141, e141, hx141_0, hx141_1, hx141_2, hx141_3⟩ := at_T38 HR140_0.out x70_4 p141 q141
                     (try rw [← Nbq39.out] at hx141_0)
                     cases e141
                     replace hx141_0 := (HB.out.cell (World.block_lt_of_cell? w _ hx141_0)).trans hx141_0
                     replace hx141_1 := (HB.out.cell (World.block_lt_of_cell? w _ hx141_1)).trans hx141_1
                     replace hx141_2 := (HB.out.cell (World.block_lt_of_cell? w _ hx141_2)).trans hx141_2
                     replace hx141_3 := (HB.out.cell (World.block_lt_of_cell? w _ hx141_3)).trans hx141_3
                     replace p141 := eq_true p141
                     replace q141 := eq_true q141
                     go_wp2_with (first | ((with_reducible refine gate_dst (N := 6) rfl ?_); (try (refine gate_guard (by rfl) ?_; dsimp only)); refine box_event ?hg (N := 6) ?hd (cs := #[.bool false, .int .i64 0, .int .i64 0, .int .i64 0]) (t := 38) ?hr ?_; (case hd => rfl); (case hg => rfl); (case hr => first | (go_simp; done) | (go_simp; rfl)); intro gb142 hg w45 hbox hb; have n0_ := Aside0.mk (blk_below (g := gb128) (o := .cells #[.slice (some ad138) l0_0.length c0_0, .bool a0_1] 30 (0, 0)) (by (with_reducible repeat (first | refine blk_drewN ?_ _ | refine blk_drew ?_ | refine blk_alloc ?_ _)); exact BK128.out) hb); have n1_ := Aside0.mk (below_step (by repeat (first | (with_reducible first | exact HB.out | apply below_alloc | apply pw_below_drewN | apply below_drew1 | refine below_set ?_ GE128.out) | exact HB.out)) hb); have n2_ := Aside0.mk (hbox); have n3_ := Aside0.mk ((by rw [hg]; exact (below_size (by repeat (first | (with_reducible first | exact HB.out | apply below_alloc | apply pw_below_drewN | apply below_drew1 | refine below_set ?_ GE128.out) | exact HB.out))) : w.heap.size ≤ gb142)); have n4_ := Aside0.mk ((by rw [hg]; exact (below_size (by repeat (first | (with_reducible first | exact HB.out | apply below_alloc | apply pw_below_drewN | apply below_drew1 | refine below_set ?_ GE128.out) | exact HB.out))) : w.heap.size ≤ gb142)); have n5_ := Aside0.mk ((by rw [hg]; exact Nat.ne_of_lt (blk_lt (g := gb128) (o := .cells #[.slice (some ad138) l0_0.length c0_0, .bool a0_1] 30 (0, 0)) (by (with_reducible repeat (first | refine blk_drewN ?_ _ | refine blk_drew ?_ | refine blk_alloc ?_ _)); exact BK128.out)) : gb128 ≠ gb142)); have n6_ := Aside0.mk ((by rw [hg]; exact Nat.ne_of_gt (blk_lt (g := gb128) (o := .cells #[.slice (some ad138) l0_0.length c0_0, .bool a0_1] 30 (0, 0)) (by (with_reducible repeat (first | refine blk_drewN ?_ _ | refine blk_drew ?_ | refine blk_alloc ?_ _)); exact BK128.out)) : gb142 ≠ gb128)); clear BK128; clear HB; have BK128 := n0_; have HB := n1_; have BK142 := n2_; have GW142 := n3_; have GE142 := n4_; have NB128_142 := n5_; have NB142_128 := n6_; clear n0_ n1_ n2_ n3_ n4_ n5_ n6_; clear hb hbox hg; have hnb46 := NB142_128.out; have hnc46 := NB128_142.out; have hcz47_0 : w45.cell? ⟨gb142, 0, none⟩ = some (.bool false) := (blk_cell BK142.out 0).trans rfl; have hcz47_1 : w45.cell? ⟨gb142, 1, none⟩ = some (.int .i64 0) := (blk_cell BK142.out 1).trans rfl; have hcz47_2 : w45.cell? ⟨gb142, 2, none⟩ = some (.int .i64 0) := (blk_cell BK142.out 2).trans rfl; have hcz47_3 : w45.cell? ⟨gb142, 3, none⟩ = some (.int .i64 0) := (blk_cell BK142.out 3).trans rfl; have hfz47_0 := blk_frozen BK142.out 0; have hfz47_1 := blk_frozen BK142.out 1; have hfz47_2 := blk_frozen BK142.out 2; have hfz47_3 := blk_frozen BK142.out 3))
                     go_ret
                     exact ⟨by first | rfl | (simp [errW_none, errW_some] <;> rfl) | (simp [*, errW_none, errW_some] <;> rfl), by repeat (first | (with_reducible first | exact HB.out | apply below_alloc | apply pw_below_drewN | apply below_drew1 | refine below_set ?_ GE128.out | refine below_set ?_ GE142.out) | exact HB.out)⟩
                    ·rw [if_neg c44] at H
                     have c44b0 : decide (28 < ((rd_T38 (rd_L5 l0_0 3) x70_4).f1)) = false := decide_eq_false c44
                     clear c44
                     have H' := Aside0.mk H
                     clear H
                     have p141 : 0 ≤ (x70_4 : Int) := of_decide_eq_true (by first | (with_reducible assumption) | assumption)
                     have q141 : x70_4 < ((rd_L5 l0_0 3).length : Int) := of_decide_eq_true (by first | (with_reducible assumption) | assumption)
                     obtain ⟨ad141, e141, hx141_0, hx141_1, hx141_2, hx141_3⟩ := at_T38 HR140_0.out x70_4 p141 q141
                     (try rw [← Nbq39.out] at hx141_0)
                     cases e141
                     replace hx141_0 := (HB.out.cell (World.block_lt_of_cell? w _ hx141_0)).trans hx141_0
                     replace hx141_1 := (HB.out.cell (World.block_lt_of_cell? w _ hx141_1)).trans hx141_1
                     replace hx141_2 := (HB.out.cell (World.block_lt_of_cell? w _ hx141_2)).trans hx141_2
                     replace hx141_3 := (HB.out.cell (World.block_lt_of_cell? w _ hx141_3)).trans hx141_3
                     replace p141 := eq_true p141
                     replace q141 := eq_true q141
                     go_wp2_with (first | ((with_reducible refine gate_dst (N := 6) rfl ?_); (try (refine gate_guard (by rfl) ?_; dsimp only)); refine box_event ?hg (N := 6) ?hd (cs := #[.bool false, .int .i64 0, .int .i64 0, .int .i64 0]) (t := 38) ?hr ?_; (case hd => rfl); (case hg => rfl); (case hr => first | (go_simp; done) | (go_simp; rfl)); intro gb142 hg w48 hbox hb; have n0_ := Aside0.mk (blk_below (g := gb128) (o := .cells #[.slice (some ad138) l0_0.length c0_0, .bool a0_1] 30 (0, 0)) (by (with_reducible repeat (first | refine blk_drewN ?_ _ | refine blk_drew ?_ | refine blk_alloc ?_ _)); exact BK128.out) hb); have n1_ := Aside0.mk (below_step (by repeat (first | (with_reducible first | exact HB.out | apply below_alloc | apply pw_below_drewN | apply below_drew1 | refine below_set ?_ GE128.out) | exact HB.out)) hb); have n2_ := Aside0.mk (hbox); have n3_ := Aside0.mk ((by rw [hg]; exact (below_size (by repeat (first | (with_reducible first | exact HB.out | apply below_alloc | apply pw_below_drewN | apply below_drew1 | refine below_set ?_ GE128.out) | exact HB.out))) : w.heap.size ≤ gb142)); have n4_ := Aside0.mk ((by rw [hg]; exact (below_size (by repeat (first | (with_reducible first | exact HB.out | apply below_alloc | apply pw_below_drewN | apply below_drew1 | refine below_set ?_ GE128.out) | exact HB.out))) : w.heap.size ≤ gb142)); have n5_ := Aside0.mk ((by rw [hg]; exact Nat.ne_of_lt (blk_lt (g := gb128) (o := .cells #[.slice (some ad138) l0_0.length c0_0, .bool a0_1] 30 (0, 0)) (by (with_reducible repeat (first | refine blk_drewN ?_ _ | refine blk_drew ?_ | refine blk_alloc ?_ _)); exact BK128.out)) : gb128 ≠ gb142)); have n6_ := Aside0.mk ((by rw [hg]; exact Nat.ne_of_gt (blk_lt (g := gb128) (o := .cells #[.slice (some ad138) l0_0.length c0_0, .bool a0_1] 30 (0, 0)) (by (with_reducible repeat (first | refine blk_drewN ?_ _ | refine blk_drew ?_ | refine blk_alloc ?_ _)); exact BK128.out)) : gb142 ≠ gb128)); clear BK128; clear HB; have BK128 := n0_; have HB := n1_; have BK142 := n2_; have GW142 := n3_; have GE142 := n4_; have NB128_142 := n5_; have NB142_128 := n6_; clear n0_ n1_ n2_ n3_ n4_ n5_ n6_; clear hb hbox hg; have hnb49 := NB142_128.out; have hnc49 := NB128_142.out; have hcz50_0 : w48.cell? ⟨gb142, 0, none⟩ = some (.bool false) := (blk_cell BK142.out 0).trans rfl; have hcz50_1 : w48.cell? ⟨gb142, 1, none⟩ = some (.int .i64 0) := (blk_cell BK142.out 1).trans rfl; have hcz50_2 : w48.cell? ⟨gb142, 2, none⟩ = some (.int .i64 0) := (blk_cell BK142.out 2).trans rfl; have hcz50_3 : w48.cell? ⟨gb142, 3, none⟩ = some (.int .i64 0) := (blk_cell BK142.out 3).trans rfl; have hfz50_0 := blk_frozen BK142.out 0; have hfz50_1 := blk_frozen BK142.out 1; have hfz50_2 := blk_frozen BK142.out 2; have hfz50_3 := blk_frozen BK142.out 3))
                     go_roundg k4
                     case measure => have := HK1.out; have := HJ11.out; have := HJ20.out; have := HK4.out; omega
                     case rel => exact ⟨(wrap64 (x70_4 + 1)), (by first | rfl | (simp; done) | (simp [*]; done)), H', ⟨by have := HK1.out; have := HJ11.out; have := HJ20.out; have := HK4.out; omega⟩, ⟨by (with_reducible repeat (first | refine blk_drewN ?_ _ | refine blk_drew ?_ | refine blk_alloc ?_ _)); refine blk_far ?_ NB128_142.out _; (with_reducible repeat (first | refine blk_drewN ?_ _ | refine blk_drew ?_ | refine blk_alloc ?_ _)); refine blk_far ?_ NB128_142.out _; (with_reducible repeat (first | refine blk_drewN ?_ _ | refine blk_drew ?_ | refine blk_alloc ?_ _)); refine blk_far ?_ NB128_142.out _; (with_reducible repeat (first | refine blk_drewN ?_ _ | refine blk_drew ?_ | refine blk_alloc ?_ _)); refine blk_far ?_ NB128_142.out _; (with_reducible repeat (first | refine blk_drewN ?_ _ | refine blk_drew ?_ | refine blk_alloc ?_ _)); exact BK128.out⟩, ⟨by repeat (first | (with_reducible first | exact HB.out | apply below_alloc | apply pw_below_drewN | apply below_drew1 | refine below_set ?_ GE128.out | refine below_set ?_ GE142.out) | exact HB.out)⟩⟩
                  ·rw [if_neg c38] at H
                   exact absurd H (by simp)
                 ·rw [if_neg c37] at H
                  exact absurd H (by simp)
                ·rw [if_neg c36] at H
                 have c36b0 : decide (x70_4 < ((rd_L5 l0_0 3).length : Int)) = false := decide_eq_false c36
                 clear c36
                 obtain rfl := Option.some.inj H
                 go_wp2
                 go_ret
                 exact ⟨by first | rfl | (simp [errW_none, errW_some] <;> rfl) | (simp [*, errW_none, errW_some] <;> rfl), by repeat (first | (with_reducible first | exact HB.out | apply below_alloc | apply pw_below_drewN | apply below_drew1 | refine below_set ?_ GE128.out) | exact HB.out)⟩
             ·rw [if_neg c34] at H
              exact absurd H (by simp)
           ·rw [if_neg c30] at H
            exact absurd H (by simp)
 ·rw [if_neg c2] at H
  have c2b0 : ((l0_0.length : Int) == 6) = false := beq_eq_false_iff_ne.mpr c2
  have c2b1 : ((l0_0.length : Int) != 6) = true := bne_iff_ne.mpr c2
  obtain rfl := Option.some.inj H
  go_enter Tryz.func28, Tryz.ntmps28
  go_wp2_with (first | ((with_reducible refine gate_dst (N := 1) rfl ?_); (try (refine gate_guard (by rfl) ?_; dsimp only)); refine box_event ?hg (N := 1) ?hd (cs := #[.slice A0_0 l0_0.length c0_0, .bool a0_1]) (t := 30) ?hr ?_; (case hd => rfl); (case hg => rfl); (case hr => first | (go_simp; done) | (go_simp; rfl)); intro gb128 hg w51 hbox hb; have n0_ := Aside0.mk (below_step (by repeat (first | (with_reducible first | exact HB.out | apply below_alloc | apply pw_below_drewN | apply below_drew1) | exact HB.out)) hb); have n1_ := Aside0.mk (hbox); have n2_ := Aside0.mk ((by rw [hg]; exact (below_size (by repeat (first | (with_reducible first | exact HB.out | apply below_alloc | apply pw_below_drewN | apply below_drew1) | exact HB.out))) : w.heap.size ≤ gb128)); have n3_ := Aside0.mk ((by rw [hg]; exact (below_size (by repeat (first | (with_reducible first | exact HB.out | apply below_alloc | apply pw_below_drewN | apply below_drew1) | exact HB.out))) : w.heap.size ≤ gb128)); clear HB; have HB := n0_; have BK128 := n1_; have GW128 := n2_; have GE128 := n3_; clear n0_ n1_ n2_ n3_; clear hb hbox hg; have hcz52_0 : w51.cell? ⟨gb128, 0, none⟩ = some (.slice A0_0 l0_0.length c0_0) := (blk_cell BK128.out 0).trans rfl; have hcz52_1 : w51.cell? ⟨gb128, 1, none⟩ = some (.bool a0_1) := (blk_cell BK128.out 1).trans rfl; have hfz52_0 := blk_frozen BK128.out 0; have hfz52_1 := blk_frozen BK128.out 1))
  go_ret
  exact ⟨by first | rfl | (simp [errW_none, errW_some] <;> rfl) | (simp [*, errW_none, errW_some] <;> rfl), by repeat (first | (with_reducible first | exact HB.out | apply below_alloc | apply pw_below_drewN | apply below_drew1 | refine below_set ?_ GE128.out) | exact HB.out)⟩
end Go.Proofs.YtemgofomhjabpaaGreatDoor.Core
namespace Go.Proofs.YtemgofomhjabpaaGreatDoor.Core
open Go.RowKit Go.Proofs.YtemgofomhjabpaaGreatDoorW.PrintWords Go.Proofs.YtemgofomhjabpaaGreatDoorW.PrintLast Go.Proofs.YtemgofomhjabpaaGreatDoorW.PrintMore
attribute [local go_sem] max2_int min2_int max_two min_two max_three min_three max_four min_four   -- for this text's walks alone
set_option linter.unusedVariables false
set_option linter.unusedSimpArgs false
def spec_Has.l0 : Nat → Int → Int → List (S38) → Int → Int → Option (Bool)
 | 0, _, _, _, _, _ => none
 | k + 1, x0, x2, x11, x12, x13 => if x13 < x12 then (if 0 ≤ x13 then (if x13 < (x11.length : Int) then (if (rd_T38 x11 x13).f0 = true then ((spec_Low.f x0).bind fun t167 => ((spec_High.f x0).bind fun t168 => (if x2 ≥ t167 then (if x2 ≤ t168 then (if ((rd_T38 x11 x13).f3) = 0 then (none) else (if (Int.tmod (wrap64 (x2 - t167)) ((rd_T38 x11 x13).f3)) = 0 then (some true) else (spec_Has.l0 k x0 x2 x11 x12 (wrap64 (x13 + 1))))) else (spec_Has.l0 k x0 x2 x11 x12 (wrap64 (x13 + 1)))) else (spec_Has.l0 k x0 x2 x11 x12 (wrap64 (x13 + 1)))))) else (if x2 ≥ ((rd_T38 x11 x13).f1) then (if x2 ≤ ((rd_T38 x11 x13).f2) then (if ((rd_T38 x11 x13).f3) = 0 then (none) else (if (Int.tmod (wrap64 (x2 - ((rd_T38 x11 x13).f1))) ((rd_T38 x11 x13).f3)) = 0 then (some true) else (spec_Has.l0 k x0 x2 x11 x12 (wrap64 (x13 + 1))))) else (spec_Has.l0 k x0 x2 x11 x12 (wrap64 (x13 + 1)))) else (spec_Has.l0 k x0 x2 x11 x12 (wrap64 (x13 + 1))))) else (none)) else (none)) else (some false)
def spec_Has.f (k : Nat) (a0 : Int) (l1 : List (S38)) (a2 : Int) : Option (Bool) := spec_Has.l0 k a0 a2 l1 (l1.length : Int) 0
set_option maxHeartbeats 8000000 in
set_option maxRecDepth 100000 in
theorem spec_Has.calls (k : Nat) (a0 : Int) (A1 : Option Addr) (c1 : Nat) (l1 : List (S38)) (a2 : Int) (r : Bool) (w : World) (hr1 : Kd.C k38 w A1 l1.length l1) (hc1 : l1.length ≤ c1) (h : spec_Has.f k a0 l1 a2 = some r) :
  Calls Tryz.prog 36 #[.int .i64 a0, .slice A1 l1.length c1, .int .i64 a2] w fun e w' => e = .returned (.bool r) ∧ Below w.heap.size w w' := by
 have hu38 := Tryz.underlying38
 have HR1 := Aside0.mk hr1
 have HC1 := Aside0.mk hc1
 clear hr1 hc1
 have HB := Aside0.mk (Below.refl w.heap.size w)
 have H : (spec_Has.l0 k a0 a2 l1 (l1.length : Int) 0) = some r := h
 clear h
 have H' := Aside0.mk H
 clear H
 go_enter Tryz.func36, Tryz.ntmps36
 go_wp2
 repeat (go_quiet (fail); try go_wp2)
 go_loopg [13] k (fun kq v13 w' => ∃ (x13_1 : Int), v13 = .int .i64 x13_1 ∧ Aside0 (spec_Has.l0 kq a0 a2 l1 (l1.length : Int) x13_1 = some r) ∧ Aside0 (kq ≤ k) ∧ Aside0 (Below w.heap.size w w'))
 case atStart => exact ⟨(0), (by first | rfl | (simp; done) | (simp [*]; done)), H', ⟨Nat.le_refl _⟩, ⟨by repeat (first | (with_reducible first | exact HB.out | apply below_alloc | apply pw_below_drewN | apply below_drew1) | exact HB.out)⟩⟩
 case round =>
  clear H'
  obtain ⟨x13_1, rfl, HA, HK1, HB⟩ := hrel
  cases gk with
  | zero => exact absurd HA.out (by simp [spec_Has.l0])
  | succ k1 =>
   have H := HA.out
   clear HA
   simp only [spec_Has.l0] at H
   by_cases c4 : x13_1 < (l1.length : Int)
   ·rw [if_pos c4] at H
    have c4b0 : decide (x13_1 < (l1.length : Int)) = true := decide_eq_true c4
    clear c4
    by_cases c5 : 0 ≤ x13_1
    ·rw [if_pos c5] at H
     have c5b0 : decide (0 ≤ x13_1) = true := decide_eq_true c5
     clear c5
     by_cases c6 : x13_1 < (l1.length : Int)
     ·rw [if_pos c6] at H
      have c6b0 : decide (x13_1 < (l1.length : Int)) = true := decide_eq_true c6
      clear c6
      obtain ⟨bq7, hbq7⟩ : ∃ b_ : Bool, b_ = ((rd_T38 l1 x13_1).f0) := ⟨_, rfl⟩
      replace H : (if bq7 = true then ((spec_Low.f a0).bind fun t167 => ((spec_High.f a0).bind fun t168 => (if a2 ≥ t167 then (if a2 ≤ t168 then (if ((rd_T38 l1 x13_1).f3) = 0 then (none) else (if (Int.tmod (wrap64 (a2 - t167)) ((rd_T38 l1 x13_1).f3)) = 0 then (some true) else (spec_Has.l0 k1 a0 a2 l1 (l1.length : Int) (wrap64 (x13_1 + 1))))) else (spec_Has.l0 k1 a0 a2 l1 (l1.length : Int) (wrap64 (x13_1 + 1)))) else (spec_Has.l0 k1 a0 a2 l1 (l1.length : Int) (wrap64 (x13_1 + 1)))))) else (if a2 ≥ ((rd_T38 l1 x13_1).f1) then (if a2 ≤ ((rd_T38 l1 x13_1).f2) then (if ((rd_T38 l1 x13_1).f3) = 0 then (none) else (if (Int.tmod (wrap64 (a2 - ((rd_T38 l1 x13_1).f1))) ((rd_T38 l1 x13_1).f3)) = 0 then (some true) else (spec_Has.l0 k1 a0 a2 l1 (l1.length : Int) (wrap64 (x13_1 + 1))))) else (spec_Has.l0 k1 a0 a2 l1 (l1.length : Int) (wrap64 (x13_1 + 1)))) else (spec_Has.l0 k1 a0 a2 l1 (l1.length : Int) (wrap64 (x13_1 + 1))))) = some r := by rw [← hbq7] at H; exact H
      have Nbq7 := Aside0.mk hbq7
      clear hbq7
      by_cases c8 : bq7 = true
      ·subst c8
       have H1 : ((spec_Low.f a0).bind fun t167 => ((spec_High.f a0).bind fun t168 => (if a2 ≥ t167 then (if a2 ≤ t168 then (if ((rd_T38 l1 x13_1).f3) = 0 then (none) else (if (Int.tmod (wrap64 (a2 - t167)) ((rd_T38 l1 x13_1).f3)) = 0 then (some true) else (spec_Has.l0 k1 a0 a2 l1 (l1.length : Int) (wrap64 (x13_1 + 1))))) else (spec_Has.l0 k1 a0 a2 l1 (l1.length : Int) (wrap64 (x13_1 + 1)))) else (spec_Has.l0 k1 a0 a2 l1 (l1.length : Int) (wrap64 (x13_1 + 1)))))) = some r := by rw [if_pos rfl] at H; exact H
       clear H
       have H := H1
       clear H1
       replace H := Option.bind_eq_some_iff.mp H
       obtain ⟨t167, A90, H⟩ := H
       replace H : ((spec_High.f a0).bind fun t168 => (if a2 ≥ t167 then (if a2 ≤ t168 then (if ((rd_T38 l1 x13_1).f3) = 0 then (none) else (if (Int.tmod (wrap64 (a2 - t167)) ((rd_T38 l1 x13_1).f3)) = 0 then (some true) else (spec_Has.l0 k1 a0 a2 l1 (l1.length : Int) (wrap64 (x13_1 + 1))))) else (spec_Has.l0 k1 a0 a2 l1 (l1.length : Int) (wrap64 (x13_1 + 1)))) else (spec_Has.l0 k1 a0 a2 l1 (l1.length : Int) (wrap64 (x13_1 + 1))))) = some r := H
       have A9 := Aside0.mk A90
       clear A90
       replace H := Option.bind_eq_some_iff.mp H
       obtain ⟨t168, A100, H⟩ := H
       replace H : (if a2 ≥ t167 then (if a2 ≤ t168 then (if ((rd_T38 l1 x13_1).f3) = 0 then (none) else (if (Int.tmod (wrap64 (a2 - t167)) ((rd_T38 l1 x13_1).f3)) = 0 then (some true) else (spec_Has.l0 k1 a0 a2 l1 (l1.length : Int) (wrap64 (x13_1 + 1))))) else (spec_Has.l0 k1 a0 a2 l1 (l1.length : Int) (wrap64 (x13_1 + 1)))) else (spec_Has.l0 k1 a0 a2 l1 (l1.length : Int) (wrap64 (x13_1 + 1)))) = some r := H
       have A10 := Aside0.mk A100
       clear A100
       by_cases c11 : a2 ≥ t167
       ·rw [if_pos c11] at H
        have c11b0 : decide (t167 ≤ a2) = true := decide_eq_true c11
        clear c11
        by_cases c12 : a2 ≤ t168
        ·rw [if_pos c12] at H
         have c12b0 : decide (a2 ≤ t168) = true := decide_eq_true c12
         clear c12
         by_cases c13 : ((rd_T38 l1 x13_1).f3) = 0
         ·rw [if_pos c13] at H
          exact absurd H (by simp)
         ·rw [if_neg c13] at H
          have c13b0 : (((rd_T38 l1 x13_1).f3) == 0) = false := beq_eq_false_iff_ne.mpr c13
          have c13b1 : (((rd_T38 l1 x13_1).f3) != 0) = true := bne_iff_ne.mpr c13
          by_cases c14 : (Int.tmod (wrap64 (a2 - t167)) ((rd_T38 l1 x13_1).f3)) = 0
          ·rw [if_pos c14] at H
           have c14b0 : ((Int.tmod (wrap64 (a2 - t167)) ((rd_T38 l1 x13_1).f3)) == 0) = true := beq_iff_eq.mpr c14
           have c14b1 : ((Int.tmod (wrap64 (a2 - t167)) ((rd_T38 l1 x13_1).f3)) != 0) = false := bne_eq_false_iff_eq.mpr c14
           clear c14
           obtain rfl := Option.some.inj H
           have p165 : 0 ≤ (x13_1 : Int) := of_decide_eq_true (by first | (with_reducible assumption) | assumption)
           have q165 : x13_1 < (l1.length : Int) := of_decide_eq_true (by first | (with_reducible assumption) | assumption)
           obtain ⟨ad165, e165, hx165_0, hx165_1, hx165_2, hx165_3⟩ := at_T38 HR1.out x13_1 p165 q165
           (try rw [← Nbq7.out] at hx165_0)
           cases e165
           replace hx165_0 := (HB.out.cell (World.block_lt_of_cell? w _ hx165_0)).trans hx165_0
           replace hx165_1 := (HB.out.cell (World.block_lt_of_cell? w _ hx165_1)).trans hx165_1
           replace hx165_2 := (HB.out.cell (World.block_lt_of_cell? w _ hx165_2)).trans hx165_2
           replace hx165_3 := (HB.out.cell (World.block_lt_of_cell? w _ hx165_3)).trans hx165_3
           replace p165 := eq_true p165
           replace q165 := eq_true q165
           go_wp2_with (first | ((with_reducible refine gate_dst (N := 8) rfl ?_); refine box_event ?hg (N := 8) ?hd (cs := #[.bool false, .int .i64 0, .int .i64 0, .int .i64 0]) (t := 38) ?hr ?_; (case hd => rfl); (case hg => rfl); (case hr => first | (go_simp; done) | (go_simp; rfl)); intro gb166 hg w15 hbox hb; have n0_ := Aside0.mk (below_step (by repeat (first | (with_reducible first | exact HB.out | apply below_alloc | apply pw_below_drewN | apply below_drew1) | exact HB.out)) hb); have n1_ := Aside0.mk (hbox); have n2_ := Aside0.mk ((by rw [hg]; exact (below_size (by repeat (first | (with_reducible first | exact HB.out | apply below_alloc | apply pw_below_drewN | apply below_drew1) | exact HB.out))) : w.heap.size ≤ gb166)); have n3_ := Aside0.mk ((by rw [hg]; exact (below_size (by repeat (first | (with_reducible first | exact HB.out | apply below_alloc | apply pw_below_drewN | apply below_drew1) | exact HB.out))) : w.heap.size ≤ gb166)); clear HB; have HB := n0_; have BK166 := n1_; have GW166 := n2_; have GE166 := n3_; clear n0_ n1_ n2_ n3_; clear hb hbox hg; have hcz16_0 : w15.cell? ⟨gb166, 0, none⟩ = some (.bool false) := (blk_cell BK166.out 0).trans rfl; have hcz16_1 : w15.cell? ⟨gb166, 1, none⟩ = some (.int .i64 0) := (blk_cell BK166.out 1).trans rfl; have hcz16_2 : w15.cell? ⟨gb166, 2, none⟩ = some (.int .i64 0) := (blk_cell BK166.out 2).trans rfl; have hcz16_3 : w15.cell? ⟨gb166, 3, none⟩ = some (.int .i64 0) := (blk_cell BK166.out 3).trans rfl; have hfz16_0 := blk_frozen BK166.out 0; have hfz16_1 := blk_frozen BK166.out 1; have hfz16_2 := blk_frozen BK166.out 2; have hfz16_3 := blk_frozen BK166.out 3) | (go_at_call 20; (with_reducible refine (spec_Low.calls a0 t167 _ A9.out).mono ?_); rintro e w' ⟨rfl, ⟨nd, rfl⟩⟩; (try first | exact ⟨rfl, _, World.drewN_drewN _ _ _⟩ | exact ⟨rfl, _, Eq.trans (World.drewN_drewN _ _ _) (congrArg (World.drewN _) (Nat.add_assoc _ _ _))⟩)) | (go_at_call 21; (with_reducible refine (spec_High.calls a0 t168 _ A10.out).mono ?_); rintro e w' ⟨rfl, ⟨nd, rfl⟩⟩; (try first | exact ⟨rfl, _, World.drewN_drewN _ _ _⟩ | exact ⟨rfl, _, Eq.trans (World.drewN_drewN _ _ _) (congrArg (World.drewN _) (Nat.add_assoc _ _ _))⟩)))
           repeat (go_quiet (first | ((with_reducible refine gate_dst (N := 8) rfl ?_); refine box_event ?hg (N := 8) ?hd (cs := #[.bool false, .int .i64 0, .int .i64 0, .int .i64 0]) (t := 38) ?hr ?_; (case hd => rfl); (case hg => rfl); (case hr => first | (go_simp; done) | (go_simp; rfl)); intro gb166 hg w15 hbox hb; have n0_ := Aside0.mk (below_step (by repeat (first | (with_reducible first | exact HB.out | apply below_alloc | apply pw_below_drewN | apply below_drew1) | exact HB.out)) hb); have n1_ := Aside0.mk (hbox); have n2_ := Aside0.mk ((by rw [hg]; exact (below_size (by repeat (first | (with_reducible first | exact HB.out | apply below_alloc | apply pw_below_drewN | apply below_drew1) | exact HB.out))) : w.heap.size ≤ gb166)); have n3_ := Aside0.mk ((by rw [hg]; exact (below_size (by repeat (first | (with_reducible first | exact HB.out | apply below_alloc | apply pw_below_drewN | apply below_drew1) | exact HB.out))) : w.heap.size ≤ gb166)); clear HB; have HB := n0_; have BK166 := n1_; have GW166 := n2_; have GE166 := n3_; clear n0_ n1_ n2_ n3_; clear hb hbox hg; have hcz16_0 : w15.cell? ⟨gb166, 0, none⟩ = some (.bool false) := (blk_cell BK166.out 0).trans rfl; have hcz16_1 : w15.cell? ⟨gb166, 1, none⟩ = some (.int .i64 0) := (blk_cell BK166.out 1).trans rfl; have hcz16_2 : w15.cell? ⟨gb166, 2, none⟩ = some (.int .i64 0) := (blk_cell BK166.out 2).trans rfl; have hcz16_3 : w15.cell? ⟨gb166, 3, none⟩ = some (.int .i64 0) := (blk_cell BK166.out 3).trans rfl; have hfz16_0 := blk_frozen BK166.out 0; have hfz16_1 := blk_frozen BK166.out 1; have hfz16_2 := blk_frozen BK166.out 2; have hfz16_3 := blk_frozen BK166.out 3) | (go_at_call 20; (with_reducible refine (spec_Low.calls a0 t167 _ A9.out).mono ?_); rintro e w' ⟨rfl, ⟨nd, rfl⟩⟩; (try first | exact ⟨rfl, _, World.drewN_drewN _ _ _⟩ | exact ⟨rfl, _, Eq.trans (World.drewN_drewN _ _ _) (congrArg (World.drewN _) (Nat.add_assoc _ _ _))⟩)) | (go_at_call 21; (with_reducible refine (spec_High.calls a0 t168 _ A10.out).mono ?_); rintro e w' ⟨rfl, ⟨nd, rfl⟩⟩; (try first | exact ⟨rfl, _, World.drewN_drewN _ _ _⟩ | exact ⟨rfl, _, Eq.trans (World.drewN_drewN _ _ _) (congrArg (World.drewN _) (Nat.add_assoc _ _ _))⟩))); try go_wp2_with (first | ((with_reducible refine gate_dst (N := 8) rfl ?_); refine box_event ?hg (N := 8) ?hd (cs := #[.bool false, .int .i64 0, .int .i64 0, .int .i64 0]) (t := 38) ?hr ?_; (case hd => rfl); (case hg => rfl); (case hr => first | (go_simp; done) | (go_simp; rfl)); intro gb166 hg w15 hbox hb; have n0_ := Aside0.mk (below_step (by repeat (first | (with_reducible first | exact HB.out | apply below_alloc | apply pw_below_drewN | apply below_drew1) | exact HB.out)) hb); have n1_ := Aside0.mk (hbox); have n2_ := Aside0.mk ((by rw [hg]; exact (below_size (by repeat (first | (with_reducible first | exact HB.out | apply below_alloc | apply pw_below_drewN | apply below_drew1) | exact HB.out))) : w.heap.size ≤ gb166)); have n3_ := Aside0.mk ((by rw [hg]; exact (below_size (by repeat (first | (with_reducible first | exact HB.out | apply below_alloc | apply pw_below_drewN | apply below_drew1) | exact HB.out))) : w.heap.size ≤ gb166)); clear HB; have HB := n0_; have BK166 := n1_; have GW166 := n2_; have GE166 := n3_; clear n0_ n1_ n2_ n3_; clear hb hbox hg; have hcz16_0 : w15.cell? ⟨gb166, 0, none⟩ = some (.bool false) := (blk_cell BK166.out 0).trans rfl; have hcz16_1 : w15.cell? ⟨gb166, 1, none⟩ = some (.int .i64 0) := (blk_cell BK166.out 1).trans rfl; have hcz16_2 : w15.cell? ⟨gb166, 2, none⟩ = some (.int .i64 0) := (blk_cell BK166.out 2).trans rfl; have hcz16_3 : w15.cell? ⟨gb166, 3, none⟩ = some (.int .i64 0) := (blk_cell BK166.out 3).trans rfl; have hfz16_0 := blk_frozen BK166.out 0; have hfz16_1 := blk_frozen BK166.out 1; have hfz16_2 := blk_frozen BK166.out 2; have hfz16_3 := blk_frozen BK166.out 3) | (go_at_call 20; (with_reducible refine (spec_Low.calls a0 t167 _ A9.out).mono ?_); rintro e w' ⟨rfl, ⟨nd, rfl⟩⟩; (try first | exact ⟨rfl, _, World.drewN_drewN _ _ _⟩ | exact ⟨rfl, _, Eq.trans (World.drewN_drewN _ _ _) (congrArg (World.drewN _) (Nat.add_assoc _ _ _))⟩)) | (go_at_call 21; (with_reducible refine (spec_High.calls a0 t168 _ A10.out).mono ?_); rintro e w' ⟨rfl, ⟨nd, rfl⟩⟩; (try first | exact ⟨rfl, _, World.drewN_drewN _ _ _⟩ | exact ⟨rfl, _, Eq.trans (World.drewN_drewN _ _ _) (congrArg (World.drewN _) (Nat.add_assoc _ _ _))⟩))))
           go_ret
           exact ⟨by first | rfl | (simp [errW_none, errW_some] <;> rfl) | (simp [*, errW_none, errW_some] <;> rfl), by repeat (first | (with_reducible first | exact HB.out | apply below_alloc | apply pw_below_drewN | apply below_drew1 | refine below_set ?_ GE166.out) | exact HB.out)⟩
          ·rw [if_neg c14] at H
           have c14b0 : ((Int.tmod (wrap64 (a2 - t167)) ((rd_T38 l1 x13_1).f3)) == 0) = false := beq_eq_false_iff_ne.mpr c14
           have c14b1 : ((Int.tmod (wrap64 (a2 - t167)) ((rd_T38 l1 x13_1).f3)) != 0) = true := bne_iff_ne.mpr c14
           have H' := Aside0.mk H
           clear H
           have p165 : 0 ≤ (x13_1 : Int) := of_decide_eq_true (by first | (with_reducible assumption) | assumption)
           have q165 : x13_1 < (l1.length : Int) := of_decide_eq_true (by first | (with_reducible assumption) | assumption)
           obtain ⟨ad165, e165, hx165_0, hx165_1, hx165_2, hx165_3⟩ := at_T38 HR1.out x13_1 p165 q165
           (try rw [← Nbq7.out] at hx165_0)
           cases e165
           replace hx165_0 := (HB.out.cell (World.block_lt_of_cell? w _ hx165_0)).trans hx165_0
           replace hx165_1 := (HB.out.cell (World.block_lt_of_cell? w _ hx165_1)).trans hx165_1
           replace hx165_2 := (HB.out.cell (World.block_lt_of_cell? w _ hx165_2)).trans hx165_2
           replace hx165_3 := (HB.out.cell (World.block_lt_of_cell? w _ hx165_3)).trans hx165_3
           replace p165 := eq_true p165
           replace q165 := eq_true q165
           go_wp2_with (first | ((with_reducible refine gate_dst (N := 8) rfl ?_); refine box_event ?hg (N := 8) ?hd (cs := #[.bool false, .int .i64 0, .int .i64 0, .int .i64 0]) (t := 38) ?hr ?_; (case hd => rfl); (case hg => rfl); (case hr => first | (go_simp; done) | (go_simp; rfl)); intro gb166 hg w17 hbox hb; have n0_ := Aside0.mk (below_step (by repeat (first | (with_reducible first | exact HB.out | apply below_alloc | apply pw_below_drewN | apply below_drew1) | exact HB.out)) hb); have n1_ := Aside0.mk (hbox); have n2_ := Aside0.mk ((by rw [hg]; exact (below_size (by repeat (first | (with_reducible first | exact HB.out | apply below_alloc | apply pw_below_drewN | apply below_drew1) | exact HB.out))) : w.heap.size ≤ gb166)); have n3_ := Aside0.mk ((by rw [hg]; exact (below_size (by repeat (first | (with_reducible first | exact HB.out | apply below_alloc | apply pw_below_drewN | apply below_drew1) | exact HB.out))) : w.heap.size ≤ gb166)); clear HB; have HB := n0_; have BK166 := n1_; have GW166 := n2_; have GE166 := n3_; clear n0_ n1_ n2_ n3_; clear hb hbox hg; have hcz18_0 : w17.cell? ⟨gb166, 0, none⟩ = some (.bool false) := (blk_cell BK166.out 0).trans rfl; have hcz18_1 : w17.cell? ⟨gb166, 1, none⟩ = some (.int .i64 0) := (blk_cell BK166.out 1).trans rfl; have hcz18_2 : w17.cell? ⟨gb166, 2, none⟩ = some (.int .i64 0) := (blk_cell BK166.out 2).trans rfl; have hcz18_3 : w17.cell? ⟨gb166, 3, none⟩ = some (.int .i64 0) := (blk_cell BK166.out 3).trans rfl; have hfz18_0 := blk_frozen BK166.out 0; have hfz18_1 := blk_frozen BK166.out 1; have hfz18_2 := blk_frozen BK166.out 2; have hfz18_3 := blk_frozen BK166.out 3) | (go_at_call 20; (with_reducible refine (spec_Low.calls a0 t167 _ A9.out).mono ?_); rintro e w' ⟨rfl, ⟨nd, rfl⟩⟩; (try first | exact ⟨rfl, _, World.drewN_drewN _ _ _⟩ | exact ⟨rfl, _, Eq.trans (World.drewN_drewN _ _ _) (congrArg (World.drewN _) (Nat.add_assoc _ _ _))⟩)) | (go_at_call 21; (with_reducible refine (spec_High.calls a0 t168 _ A10.out).mono ?_); rintro e w' ⟨rfl, ⟨nd, rfl⟩⟩; (try first | exact ⟨rfl, _, World.drewN_drewN _ _ _⟩ | exact ⟨rfl, _, Eq.trans (World.drewN_drewN _ _ _) (congrArg (World.drewN _) (Nat.add_assoc _ _ _))⟩)))
           repeat (go_quiet (first | ((with_reducible refine gate_dst (N := 8) rfl ?_); refine box_event ?hg (N := 8) ?hd (cs := #[.bool false, .int .i64 0, .int .i64 0, .int .i64 0]) (t := 38) ?hr ?_; (case hd => rfl); (case hg => rfl); (case hr => first | (go_simp; done) | (go_simp; rfl)); intro gb166 hg w17 hbox hb; have n0_ := Aside0.mk (below_step (by repeat (first | (with_reducible first | exact HB.out | apply below_alloc | apply pw_below_drewN | apply below_drew1) | exact HB.out)) hb); have n1_ := Aside0.mk (hbox); have n2_ := Aside0.mk ((by rw [hg]; exact (below_size (by repeat (first | (with_reducible first | exact HB.out | apply below_alloc | apply pw_below_drewN | apply below_drew1) | exact HB.out))) : w.heap.size ≤ gb166)); have n3_ := Aside0.mk ((by rw [hg]; exact (below_size (by repeat (first | (with_reducible first | exact HB.out | apply below_alloc | apply pw_below_drewN | apply below_drew1) | exact HB.out))) : w.heap.size ≤ gb166)); clear HB; have HB := n0_; have BK166 := n1_; have GW166 := n2_; have GE166 := n3_; clear n0_ n1_ n2_ n3_; clear hb hbox hg; have hcz18_0 : w17.cell? ⟨gb166, 0, none⟩ = some (.bool false) := (blk_cell BK166.out 0).trans rfl; have hcz18_1 : w17.cell? ⟨gb166, 1, none⟩ = some (.int .i64 0) := (blk_cell BK166.out 1).trans rfl; have hcz18_2 : w17.cell? ⟨gb166, 2, none⟩ = some (.int .i64 0) := (blk_cell BK166.out 2).trans rfl; have hcz18_3 : w17.cell? ⟨gb166, 3, none⟩ = some (.int .i64 0) := (blk_cell BK166.out 3).trans rfl; have hfz18_0 := blk_frozen BK166.out 0; have hfz18_1 := blk_frozen BK166.out 1; have hfz18_2 := blk_frozen BK166.out 2; have hfz18_3 := blk_frozen BK166.out 3) | (go_at_call 20; (with_reducible refine (spec_Low.calls a0 t167 _ A9.out).mono ?_); rintro e w' ⟨rfl, ⟨nd, rfl⟩⟩; (try first | exact ⟨rfl, _, World.drewN_drewN _ _ _⟩ | exact ⟨rfl, _, Eq.trans (World.drewN_drewN _ _ _) (congrArg (World.drewN _) (Nat.add_assoc _ _ _))⟩)) | (go_at_call 21; (with_reducible refine (spec_High.calls a0 t168 _ A10.out).mono ?_); rintro e w' ⟨rfl, ⟨nd, rfl⟩⟩; (try first | exact ⟨rfl, _, World.drewN_drewN _ _ _⟩ | exact ⟨rfl, _, Eq.trans (World.drewN_drewN _ _ _) (congrArg (World.drewN _) (Nat.add_assoc _ _ _))⟩))); try go_wp2_with (first | ((with_reducible refine gate_dst (N := 8) rfl ?_); refine box_event ?hg (N := 8) ?hd (cs := #[.bool false, .int .i64 0, .int .i64 0, .int .i64 0]) (t := 38) ?hr ?_; (case hd => rfl); (case hg => rfl); (case hr => first | (go_simp; done) | (go_simp; rfl)); intro gb166 hg w17 hbox hb; have n0_ := Aside0.mk (below_step (by repeat (first | (with_reducible first | exact HB.out | apply below_alloc | apply pw_below_drewN | apply below_drew1) | exact HB.out)) hb); have n1_ := Aside0.mk (hbox); have n2_ := Aside0.mk ((by rw [hg]; exact (below_size (by repeat (first | (with_reducible first | exact HB.out | apply below_alloc | apply pw_below_drewN | apply below_drew1) | exact HB.out))) : w.heap.size ≤ gb166)); have n3_ := Aside0.mk ((by rw [hg]; exact (below_size (by repeat (first | (with_reducible first | exact HB.out | apply below_alloc | apply pw_below_drewN | apply below_drew1) | exact HB.out))) : w.heap.size ≤ gb166)); clear HB; have HB := n0_; have BK166 := n1_; have GW166 := n2_; have GE166 := n3_; clear n0_ n1_ n2_ n3_; clear hb hbox hg; have hcz18_0 : w17.cell? ⟨gb166, 0, none⟩ = some (.bool false) := (blk_cell BK166.out 0).trans rfl; have hcz18_1 : w17.cell? ⟨gb166, 1, none⟩ = some (.int .i64 0) := (blk_cell BK166.out 1).trans rfl; have hcz18_2 : w17.cell? ⟨gb166, 2, none⟩ = some (.int .i64 0) := (blk_cell BK166.out 2).trans rfl; have hcz18_3 : w17.cell? ⟨gb166, 3, none⟩ = some (.int .i64 0) := (blk_cell BK166.out 3).trans rfl; have hfz18_0 := blk_frozen BK166.out 0; have hfz18_1 := blk_frozen BK166.out 1; have hfz18_2 := blk_frozen BK166.out 2; have hfz18_3 := blk_frozen BK166.out 3) | (go_at_call 20; (with_reducible refine (spec_Low.calls a0 t167 _ A9.out).mono ?_); rintro e w' ⟨rfl, ⟨nd, rfl⟩⟩; (try first | exact ⟨rfl, _, World.drewN_drewN _ _ _⟩ | exact ⟨rfl, _, Eq.trans (World.drewN_drewN _ _ _) (congrArg (World.drewN _) (Nat.add_assoc _ _ _))⟩)) | (go_at_call 21; (with_reducible refine (spec_High.calls a0 t168 _ A10.out).mono ?_); rintro e w' ⟨rfl, ⟨nd, rfl⟩⟩; (try first | exact ⟨rfl, _, World.drewN_drewN _ _ _⟩ | exact ⟨rfl, _, Eq.trans (World.drewN_drewN _ _ _) (congrArg (World.drewN _) (Nat.add_assoc _ _ _))⟩))))
           go_roundg k1
           case measure => have := HK1.out; omega
           case rel => exact ⟨(wrap64 (x13_1 + 1)), (by first | rfl | (simp; done) | (simp [*]; done)), H', ⟨by have := HK1.out; omega⟩, ⟨by repeat (first | (with_reducible first | exact HB.out | apply below_alloc | apply pw_below_drewN | apply below_drew1 | refine below_set ?_ GE166.out) | exact HB.out)⟩⟩
        ·rw [if_neg c12] at H
         have c12b0 : decide (a2 ≤ t168) = false := decide_eq_false c12
         clear c12
         have H' := Aside0.mk H
         clear H
         have p165 : 0 ≤ (x13_1 : Int) := of_decide_eq_true (by first | (with_reducible assumption) | assumption)
         have q165 : x13_1 < (l1.length : Int) := of_decide_eq_true (by first | (with_reducible assumption) | assumption)
         obtain ⟨ad165, e165, hx165_0, hx165_1, hx165_2, hx165_3⟩ := at_T38 HR1.out x13_1 p165 q165
         (try rw [← Nbq7.out] at hx165_0)
         cases e165
         replace hx165_0 := (HB.out.cell (World.block_lt_of_cell? w _ hx165_0)).trans hx165_0
         replace hx165_1 := (HB.out.cell (World.block_lt_of_cell? w _ hx165_1)).trans hx165_1
         replace hx165_2 := (HB.out.cell (World.block_lt_of_cell? w _ hx165_2)).trans hx165_2
         replace hx165_3 := (HB.out.cell (World.block_lt_of_cell? w _ hx165_3)).trans hx165_3
         replace p165 := eq_true p165
         replace q165 := eq_true q165
         go_wp2_with (first | ((with_reducible refine gate_dst (N := 8) rfl ?_); refine box_event ?hg (N := 8) ?hd (cs := #[.bool false, .int .i64 0, .int .i64 0, .int .i64 0]) (t := 38) ?hr ?_; (case hd => rfl); (case hg => rfl); (case hr => first | (go_simp; done) | (go_simp; rfl)); intro gb166 hg w19 hbox hb; have n0_ := Aside0.mk (below_step (by repeat (first | (with_reducible first | exact HB.out | apply below_alloc | apply pw_below_drewN | apply below_drew1) | exact HB.out)) hb); have n1_ := Aside0.mk (hbox); have n2_ := Aside0.mk ((by rw [hg]; exact (below_size (by repeat (first | (with_reducible first | exact HB.out | apply below_alloc | apply pw_below_drewN | apply below_drew1) | exact HB.out))) : w.heap.size ≤ gb166)); have n3_ := Aside0.mk ((by rw [hg]; exact (below_size (by repeat (first | (with_reducible first | exact HB.out | apply below_alloc | apply pw_below_drewN | apply below_drew1) | exact HB.out))) : w.heap.size ≤ gb166)); clear HB; have HB := n0_; have BK166 := n1_; have GW166 := n2_; have GE166 := n3_; clear n0_ n1_ n2_ n3_; clear hb hbox hg; have hcz20_0 : w19.cell? ⟨gb166, 0, none⟩ = some (.bool false) := (blk_cell BK166.out 0).trans rfl; have hcz20_1 : w19.cell? ⟨gb166, 1, none⟩ = some (.int .i64 0) := (blk_cell BK166.out 1).trans rfl; have hcz20_2 : w19.cell? ⟨gb166, 2, none⟩ = some (.int .i64 0) := (blk_cell BK166.out 2).trans rfl; have hcz20_3 : w19.cell? ⟨gb166, 3, none⟩ = some (.int .i64 0) := (blk_cell BK166.out 3).trans rfl; have hfz20_0 := blk_frozen BK166.out 0; have hfz20_1 := blk_frozen BK166.out 1; have hfz20_2 := blk_frozen BK166.out 2; have hfz20_3 := blk_frozen BK166.out 3) | (go_at_call 20; (with_reducible refine (spec_Low.calls a0 t167 _ A9.out).mono ?_); rintro e w' ⟨rfl, ⟨nd, rfl⟩⟩; (try first | exact ⟨rfl, _, World.drewN_drewN _ _ _⟩ | exact ⟨rfl, _, Eq.trans (World.drewN_drewN _ _ _) (congrArg (World.drewN _) (Nat.add_assoc _ _ _))⟩)) | (go_at_call 21; (with_reducible refine (spec_High.calls a0 t168 _ A10.out).mono ?_); rintro e w' ⟨rfl, ⟨nd, rfl⟩⟩; (try first | exact ⟨rfl, _, World.drewN_drewN _ _ _⟩ | exact ⟨rfl, _, Eq.trans (World.drewN_drewN _ _ _) (congrArg (World.drewN _) (Nat.add_assoc _ _ _))⟩)))
         repeat (go_quiet (first | ((with_reducible refine gate_dst (N := 8) rfl ?_); refine box_event ?hg (N := 8) ?hd (cs := #[.bool false, .int .i64 0, .int .i64 0, .int .i64 0]) (t := 38) ?hr ?_; (case hd => rfl); (case hg => rfl); (case hr => first | (go_simp; done) | (go_simp; rfl)); intro gb166 hg w19 hbox hb; have n0_ := Aside0.mk (below_step (by repeat (first | (with_reducible first | exact HB.out | apply below_alloc | apply pw_below_drewN | apply below_drew1) | exact HB.out)) hb); have n1_ := Aside0.mk (hbox); have n2_ := Aside0.mk ((by rw [hg]; exact (below_size (by repeat (first | (with_reducible first | exact HB.out | apply below_alloc | apply pw_below_drewN | apply below_drew1) | exact HB.out))) : w.heap.size ≤ gb166)); have n3_ := Aside0.mk ((by rw [hg]; exact (below_size (by repeat (first | (with_reducible first | exact HB.out | apply below_alloc | apply pw_below_drewN | apply below_drew1) | exact HB.out))) : w.heap.size ≤ gb166)); clear HB; have HB := n0_; have BK166 := n1_; have GW166 := n2_; have GE166 := n3_; clear n0_ n1_ n2_ n3_; clear hb hbox hg; have hcz20_0 : w19.cell? ⟨gb166, 0, none⟩ = some (.bool false) := (blk_cell BK166.out 0).trans rfl; have hcz20_1 : w19.cell? ⟨gb166, 1, none⟩ = some (.int .i64 0) := (blk_cell BK166.out 1).trans rfl; have hcz20_2 : w19.cell? ⟨gb166, 2, none⟩ = some (.int .i64 0) := (blk_cell BK166.out 2).trans rfl; have hcz20_3 : w19.cell? ⟨gb166, 3, none⟩ = some (.int .i64 0) := (blk_cell BK166.out 3).trans rfl; have hfz20_0 := blk_frozen BK166.out 0; have hfz20_1 := blk_frozen BK166.out 1; have hfz20_2 := blk_frozen BK166.out 2; have hfz20_3 := blk_frozen BK166.out 3) | (go_at_call 20; (with_reducible refine (spec_Low.calls a0 t167 _ A9.out).mono ?_); rintro e w' ⟨rfl, ⟨nd, rfl⟩⟩; (try first | exact ⟨rfl, _, World.drewN_drewN _ _ _⟩ | exact ⟨rfl, _, Eq.trans (World.drewN_drewN _ _ _) (congrArg (World.drewN _) (Nat.add_assoc _ _ _))⟩)) | (go_at_call 21; (with_reducible refine (spec_High.calls a0 t168 _ A10.out).mono ?_); rintro e w' ⟨rfl, ⟨nd, rfl⟩⟩; (try first | exact ⟨rfl, _, World.drewN_drewN _ _ _⟩ | exact ⟨rfl, _, Eq.trans (World.drewN_drewN _ _ _) (congrArg (World.drewN _) (Nat.add_assoc _ _ _))⟩))); try go_wp2_with (first | ((with_reducible refine gate_dst (N := 8) rfl ?_); refine box_event ?hg (N := 8) ?hd (cs := #[.bool false, .int .i64 0, .int .i64 0, .int .i64 0]) (t := 38) ?hr ?_; (case hd => rfl); (case hg => rfl); (case hr => first | (go_simp; done) | (go_simp; rfl)); intro gb166 hg w19 hbox hb; have n0_ := Aside0.mk (below_step (by repeat (first | (with_reducible first | exact HB.out | apply below_alloc | apply pw_below_drewN | apply below_drew1) | exact HB.out)) hb); have n1_ := Aside0.mk (hbox); have n2_ := Aside0.mk ((by rw [hg]; exact (below_size (by repeat (first | (with_reducible first | exact HB.out | apply below_alloc | apply pw_below_drewN | apply below_drew1) | exact HB.out))) : w.heap.size ≤ gb166)); have n3_ := Aside0.mk ((by rw [hg]; exact (below_size (by repeat (first | (with_reducible first | exact HB.out | apply below_alloc | apply pw_below_drewN | apply below_drew1) | exact HB.out))) : w.heap.size ≤ gb166)); clear HB; have HB := n0_; have BK166 := n1_; have GW166 := n2_; have GE166 := n3_; clear n0_ n1_ n2_ n3_; clear hb hbox hg; have hcz20_0 : w19.cell? ⟨gb166, 0, none⟩ = some (.bool false) := (blk_cell BK166.out 0).trans rfl; have hcz20_1 : w19.cell? ⟨gb166, 1, none⟩ = some (.int .i64 0) := (blk_cell BK166.out 1).trans rfl; have hcz20_2 : w19.cell? ⟨gb166, 2, none⟩ = some (.int .i64 0) := (blk_cell BK166.out 2).trans rfl; have hcz20_3 : w19.cell? ⟨gb166, 3, none⟩ = some (.int .i64 0) := (blk_cell BK166.out 3).trans rfl; have hfz20_0 := blk_frozen BK166.out 0; have hfz20_1 := blk_frozen BK166.out 1; have hfz20_2 := blk_frozen BK166.out 2; have hfz20_3 := blk_frozen BK166.out 3) | (go_at_call 20; (with_reducible refine (spec_Low.calls a0 t167 _ A9.out).mono ?_); rintro e w' ⟨rfl, ⟨nd, rfl⟩⟩; (try first | exact ⟨rfl, _, World.drewN_drewN _ _ _⟩ | exact ⟨rfl, _, Eq.trans (World.drewN_drewN _ _ _) (congrArg (World.drewN _) (Nat.add_assoc _ _ _))⟩)) | (go_at_call 21; (with_reducible refine (spec_High.calls a0 t168 _ A10.out).mono ?_); rintro e w' ⟨rfl, ⟨nd, rfl⟩⟩; (try first | exact ⟨rfl, _, World.drewN_drewN _ _ _⟩ | exact ⟨rfl, _, Eq.trans (World.drewN_drewN _ _ _) (congrArg (World.drewN _) (Nat.add_assoc _ _ _))⟩))))
         go_roundg k1
         case measure => have := HK1.out; omega
         case rel => exact ⟨(wrap64 (x13_1 + 1)), (by first | rfl | (simp; done) | (simp [*]; done)), H', ⟨by have := HK1.out; omega⟩, ⟨by repeat (first | (with_reducible first | exact HB.out | apply below_alloc | apply pw_below_drewN | apply below_drew1 | refine below_set ?_ GE166.out) | exact HB.out)⟩⟩
       ·rw [if_neg c11] at H
        have c11b0 : decide (t167 ≤ a2) = false := decide_eq_false c11
        clear c11
        have H' := Aside0.mk H
        clear H
        have p165 : 0 ≤ (x13_1 : Int) := of_decide_eq_true (by first | (with_reducible assumption) | assumption)
        have q165 : x13_1 < (l1.length : Int) := of_decide_eq_true (by first | (with_reducible assumption) | assumption)
        obtain ⟨ad165, e165, hx165_0, hx165_1, hx165_2, hx165_3⟩ := at_T38 HR1.out x13_1 p165 q165
        (try rw [← Nbq7.out] at hx165_0)
        cases e165
        replace hx165_0 := (HB.out.cell (World.block_lt_of_cell? w _ hx165_0)).trans hx165_0
        replace hx165_1 := (HB.out.cell (World.block_lt_of_cell? w _ hx165_1)).trans hx165_1
        replace hx165_2 := (HB.out.cell (World.block_lt_of_cell? w _ hx165_2)).trans hx165_2
        replace hx165_3 := (HB.out.cell (World.block_lt_of_cell? w _ hx165_3)).trans hx165_3
        replace p165 := eq_true p165
        replace q165 := eq_true q165
        go_wp2_with (first | ((with_reducible refine gate_dst (N := 8) rfl ?_); refine box_event ?hg (N := 8) ?hd (cs := #[.bool false, .int .i64 0, .int .i64 0, .int .i64 0]) (t := 38) ?hr ?_; (case hd => rfl); (case hg => rfl); (case hr => first | (go_simp; done) | (go_simp; rfl)); intro gb166 hg w21 hbox hb; have n0_ := Aside0.mk (below_step (by repeat (first | (with_reducible first | exact HB.out | apply below_alloc | apply pw_below_drewN | apply below_drew1) | exact HB.out)) hb); have n1_ := Aside0.mk (hbox); have n2_ := Aside0.mk ((by rw [hg]; exact (below_size (by repeat (first | (with_reducible first | exact HB.out | apply below_alloc | apply pw_below_drewN | apply below_drew1) | exact HB.out))) : w.heap.size ≤ gb166)); have n3_ := Aside0.mk ((by rw [hg]; exact (below_size (by repeat (first | (with_reducible first | exact HB.out | apply below_alloc | apply pw_below_drewN | apply below_drew1) | exact HB.out))) : w.heap.size ≤ gb166)); clear HB; have HB := n0_; have BK166 := n1_; have GW166 := n2_; have GE166 := n3_; clear n0_ n1_ n2_ n3_; clear hb hbox hg; have hcz22_0 : w21.cell? ⟨gb166, 0, none⟩ = some (.bool false) := (blk_cell BK166.out 0).trans rfl; have hcz22_1 : w21.cell? ⟨gb166, 1, none⟩ = some (.int .i64 0) := (blk_cell BK166.out 1).trans rfl; have hcz22_2 : w21.cell? ⟨gb166, 2, none⟩ = some (.int .i64 0) := (blk_cell BK166.out 2).trans rfl; have hcz22_3 : w21.cell? ⟨gb166, 3, none⟩ = some (.int .i64 0) := (blk_cell BK166.out 3).trans rfl; have hfz22_0 := blk_frozen BK166.out 0; have hfz22_1 := blk_frozen BK166.out 1; have hfz22_2 := blk_frozen BK166.out 2; have hfz22_3 := blk_frozen BK166.out 3) | (go_at_call 20; (with_reducible refine (spec_Low.calls a0 t167 _ A9.out).mono ?_); rintro e w' ⟨rfl, ⟨nd, rfl⟩⟩; (try first | exact ⟨rfl, _, World.drewN_drewN _ _ _⟩ | exact ⟨rfl, _, Eq.trans (World.drewN_drewN _ _ _) (congrArg (World.drewN _) (Nat.add_assoc _ _ _))⟩)) | (go_at_call 21; (with_reducible refine (spec_High.calls a0 t168 _ A10.out).mono ?_); rintro e w' ⟨rfl, ⟨nd, rfl⟩⟩; (try first | exact ⟨rfl, _, World.drewN_drewN _ _ _⟩ | exact ⟨rfl, _, Eq.trans (World.drewN_drewN _ _ _) (congrArg (World.drewN _) (Nat.add_assoc _ _ _))⟩)))
        repeat (go_quiet (first | ((with_reducible refine gate_dst (N := 8) rfl ?_); refine box_event ?hg (N := 8) ?hd (cs := #[.bool false, .int .i64 0, .int .i64 0, .int .i64 0]) (t := 38) ?hr ?_; (case hd => rfl); (case hg => rfl); (case hr => first | (go_simp; done) | (go_simp; rfl)); intro gb166 hg w21 hbox hb; have n0_ := Aside0.mk (below_step (by repeat (first | (with_reducible first | exact HB.out | apply below_alloc | apply pw_below_drewN | apply below_drew1) | exact HB.out)) hb); have n1_ := Aside0.mk (hbox); have n2_ := Aside0.mk ((by rw [hg]; exact (below_size (by repeat (first | (with_reducible first | exact HB.out | apply below_alloc | apply pw_below_drewN | apply below_drew1) | exact HB.out))) : w.heap.size ≤ gb166)); have n3_ := Aside0.mk ((by rw [hg]; exact (below_size (by repeat (first | (with_reducible first | exact HB.out | apply below_alloc | apply pw_below_drewN | apply below_drew1) | exact HB.out))) : w.heap.size ≤ gb166)); clear HB; have HB := n0_; have BK166 := n1_; have GW166 := n2_; have GE166 := n3_; clear n0_ n1_ n2_ n3_; clear hb hbox hg; have hcz22_0 : w21.cell? ⟨gb166, 0, none⟩ = some (.bool false) := (blk_cell BK166.out 0).trans rfl; have hcz22_1 : w21.cell? ⟨gb166, 1, none⟩ = some (.int .i64 0) := (blk_cell BK166.out 1).trans rfl; have hcz22_2 : w21.cell? ⟨gb166, 2, none⟩ = some (.int .i64 0) := (blk_cell BK166.out 2).trans rfl; have hcz22_3 : w21.cell? ⟨gb166, 3, none⟩ = some (.int .i64 0) := (blk_cell BK166.out 3).trans rfl; have hfz22_0 := blk_frozen BK166.out 0; have hfz22_1 := blk_frozen BK166.out 1; have hfz22_2 := blk_frozen BK166.out 2; have hfz22_3 := blk_frozen BK166.out 3) | (go_at_call 20; (with_reducible refine (spec_Low.calls a0 t167 _ A9.out).mono ?_); rintro e w' ⟨rfl, ⟨nd, rfl⟩⟩; (try first | exact ⟨rfl, _, World.drewN_drewN _ _ _⟩ | exact ⟨rfl, _, Eq.trans (World.drewN_drewN _ _ _) (congrArg (World.drewN _) (Nat.add_assoc _ _ _))⟩)) | (go_at_call 21; (with_reducible refine (spec_High.calls a0 t168 _ A10.out).mono ?_); rintro e w' ⟨rfl, ⟨nd, rfl⟩⟩; (try first | exact ⟨rfl, _, World.drewN_drewN _ _ _⟩ | exact ⟨rfl, _, Eq.trans (World.drewN_drewN _ _ _) (congrArg (World.drewN _) (Nat.add_assoc _ _ _))⟩))); try go_wp2_with (first | ((with_reducible refine gate_dst (N := 8) rfl ?_); refine box_event ?hg (N := 8) ?hd (cs := #[.bool false, .int .i64 0, .int .i64 0, .int .i64 0]) (t := 38) ?hr ?_; (case hd => rfl); (case hg => rfl); (case hr => first | (go_simp; done) | (go_simp; rfl)); intro gb166 hg w21 hbox hb; have n0_ := Aside0.mk (below_step (by repeat (first | (with_reducible first | exact HB.out | apply below_alloc | apply pw_below_drewN | apply below_drew1) | exact HB.out)) hb); have n1_ := Aside0.mk (hbox); have n2_ := Aside0.mk ((by rw [hg]; exact (below_size (by repeat (first | (with_reducible first | exact HB.out | apply below_alloc | apply pw_below_drewN | apply below_drew1) | exact HB.out))) : w.heap.size ≤ gb166)); have n3_ := Aside0.mk ((by rw [hg]; exact (below_size (by repeat (first | (with_reducible first | exact HB.out | apply below_alloc | apply pw_below_drewN | apply below_drew1) | exact HB.out))) : w.heap.size ≤ gb166)); clear HB; have HB := n0_; have BK166 := n1_; have GW166 := n2_; have GE166 := n3_; clear n0_ n1_ n2_ n3_; clear hb hbox hg; have hcz22_0 : w21.cell? ⟨gb166, 0, none⟩ = some (.bool false) := (blk_cell BK166.out 0).trans rfl; have hcz22_1 : w21.cell? ⟨gb166, 1, none⟩ = some (.int .i64 0) := (blk_cell BK166.out 1).trans rfl; have hcz22_2 : w21.cell? ⟨gb166, 2, none⟩ = some (.int .i64 0) := (blk_cell BK166.out 2).trans rfl; have hcz22_3 : w21.cell? ⟨gb166, 3, none⟩ = some (.int .i64 0) := (blk_cell BK166.out 3).trans rfl; have hfz22_0 := blk_frozen BK166.out 0; have hfz22_1 := blk_frozen BK166.out 1; have hfz22_2 := blk_frozen BK166.out 2; have hfz22_3 := blk_frozen BK166.out 3) | (go_at_call 20; (with_reducible refine (spec_Low.calls a0 t167 _ A9.out).mono ?_); rintro e w' ⟨rfl, ⟨nd, rfl⟩⟩; (try first | exact ⟨rfl, _, World.drewN_drewN _ _ _⟩ | exact ⟨rfl, _, Eq.trans (World.drewN_drewN _ _ _) (congrArg (World.drewN _) (Nat.add_assoc _ _ _))⟩)) | (go_at_call 21; (with_reducible refine (spec_High.calls a0 t168 _ A10.out).mono ?_); rintro e w' ⟨rfl, ⟨nd, rfl⟩⟩; (try first | exact ⟨rfl, _, World.drewN_drewN _ _ _⟩ | exact ⟨rfl, _, Eq.trans (World.drewN_drewN _ _ _) (congrArg (World.drewN _) (Nat.add_assoc _ _ _))⟩))))
        go_roundg k1
        case measure => have := HK1.out; omega
        case rel => exact ⟨(wrap64 (x13_1 + 1)), (by first | rfl | (simp; done) | (simp [*]; done)), H', ⟨by have := HK1.out; omega⟩, ⟨by repeat (first | (with_reducible first | exact HB.out | apply below_alloc | apply pw_below_drewN | apply below_drew1 | refine below_set ?_ GE166.out) | exact HB.out)⟩⟩
      ·replace c8 := Bool.eq_false_iff.mpr c8
       subst c8
       have H1 : (if a2 ≥ ((rd_T38 l1 x13_1).f1) then (if a2 ≤ ((rd_T38 l1 x13_1).f2) then (if ((rd_T38 l1 x13_1).f3) = 0 then (none) else (if (Int.tmod (wrap64 (a2 - ((rd_T38 l1 x13_1).f1))) ((rd_T38 l1 x13_1).f3)) = 0 then (some true) else (spec_Has.l0 k1 a0 a2 l1 (l1.length : Int) (wrap64 (x13_1 + 1))))) else (spec_Has.l0 k1 a0 a2 l1 (l1.length : Int) (wrap64 (x13_1 + 1)))) else (spec_Has.l0 k1 a0 a2 l1 (l1.length : Int) (wrap64 (x13_1 + 1)))) = some r := by rw [if_neg (show ¬ (false = true) by decide)] at H; exact H
       clear H
       have H := H1
       clear H1
       by_cases c23 : a2 ≥ ((rd_T38 l1 x13_1).f1)
       ·rw [if_pos c23] at H
        have c23b0 : decide (((rd_T38 l1 x13_1).f1) ≤ a2) = true := decide_eq_true c23
        clear c23
        by_cases c24 : a2 ≤ ((rd_T38 l1 x13_1).f2)
        ·rw [if_pos c24] at H
         have c24b0 : decide (a2 ≤ ((rd_T38 l1 x13_1).f2)) = true := decide_eq_true c24
         clear c24
         by_cases c25 : ((rd_T38 l1 x13_1).f3) = 0
         ·rw [if_pos c25] at H
          exact absurd H (by simp)
         ·rw [if_neg c25] at H
          have c25b0 : (((rd_T38 l1 x13_1).f3) == 0) = false := beq_eq_false_iff_ne.mpr c25
          have c25b1 : (((rd_T38 l1 x13_1).f3) != 0) = true := bne_iff_ne.mpr c25
          by_cases c26 : (Int.tmod (wrap64 (a2 - ((rd_T38 l1 x13_1).f1))) ((rd_T38 l1 x13_1).f3)) = 0
          ·rw [if_pos c26] at H
           have c26b0 : ((Int.tmod (wrap64 (a2 - ((rd_T38 l1 x13_1).f1))) ((rd_T38 l1 x13_1).f3)) == 0) = true := beq_iff_eq.mpr c26
           have c26b1 : ((Int.tmod (wrap64 (a2 - ((rd_T38 l1 x13_1).f1))) ((rd_T38 l1 x13_1).f3)) != 0) = false := bne_eq_false_iff_eq.mpr c26
           clear c26
           obtain rfl := Option.some.inj H
           have p165 : 0 ≤ (x13_1 : Int) := of_decide_eq_true (by first | (with_reducible assumption) | assumption)
           have q165 : x13_1 < (l1.length : Int) := of_decide_eq_true (by first | (with_reducible assumption) | assumption)
           obtain ⟨ad165, e165, hx165_0, hx165_1, hx165_2, hx165_3⟩ := at_T38 HR1.out x13_1 p165 q165
           (try rw [← Nbq7.out] at hx165_0)
           cases e165
           replace hx165_0 := (HB.out.cell (World.block_lt_of_cell? w _ hx165_0)).trans hx165_0
           replace hx165_1 := (HB.out.cell (World.block_lt_of_cell? w _ hx165_1)).trans hx165_1
           replace hx165_2 := (HB.out.cell (World.block_lt_of_cell? w _ hx165_2)).trans hx165_2
           replace hx165_3 := (HB.out.cell (World.block_lt_of_cell? w _ hx165_3)).trans hx165_3
           replace p165 := eq_true p165
           replace q165 := eq_true q165
           go_wp2_with (first | ((with_reducible refine gate_dst (N := 8) rfl ?_); refine box_event ?hg (N := 8) ?hd (cs := #[.bool false, .int .i64 0, .int .i64 0, .int .i64 0]) (t := 38) ?hr ?_; (case hd => rfl); (case hg => rfl); (case hr => first | (go_simp; done) | (go_simp; rfl)); intro gb166 hg w27 hbox hb; have n0_ := Aside0.mk (below_step (by repeat (first | (with_reducible first | exact HB.out | apply below_alloc | apply pw_below_drewN | apply below_drew1) | exact HB.out)) hb); have n1_ := Aside0.mk (hbox); have n2_ := Aside0.mk ((by rw [hg]; exact (below_size (by repeat (first | (with_reducible first | exact HB.out | apply below_alloc | apply pw_below_drewN | apply below_drew1) | exact HB.out))) : w.heap.size ≤ gb166)); have n3_ := Aside0.mk ((by rw [hg]; exact (below_size (by repeat (first | (with_reducible first | exact HB.out | apply below_alloc | apply pw_below_drewN | apply below_drew1) | exact HB.out))) : w.heap.size ≤ gb166)); clear HB; have HB := n0_; have BK166 := n1_; have GW166 := n2_; have GE166 := n3_; clear n0_ n1_ n2_ n3_; clear hb hbox hg; have hcz28_0 : w27.cell? ⟨gb166, 0, none⟩ = some (.bool false) := (blk_cell BK166.out 0).trans rfl; have hcz28_1 : w27.cell? ⟨gb166, 1, none⟩ = some (.int .i64 0) := (blk_cell BK166.out 1).trans rfl; have hcz28_2 : w27.cell? ⟨gb166, 2, none⟩ = some (.int .i64 0) := (blk_cell BK166.out 2).trans rfl; have hcz28_3 : w27.cell? ⟨gb166, 3, none⟩ = some (.int .i64 0) := (blk_cell BK166.out 3).trans rfl; have hfz28_0 := blk_frozen BK166.out 0; have hfz28_1 := blk_frozen BK166.out 1; have hfz28_2 := blk_frozen BK166.out 2; have hfz28_3 := blk_frozen BK166.out 3))
           repeat (go_quiet (first | ((with_reducible refine gate_dst (N := 8) rfl ?_); refine box_event ?hg (N := 8) ?hd (cs := #[.bool false, .int .i64 0, .int .i64 0, .int .i64 0]) (t := 38) ?hr ?_; (case hd => rfl); (case hg => rfl); (case hr => first | (go_simp; done) | (go_simp; rfl)); intro gb166 hg w27 hbox hb; have n0_ := Aside0.mk (below_step (by repeat (first | (with_reducible first | exact HB.out | apply below_alloc | apply pw_below_drewN | apply below_drew1) | exact HB.out)) hb); have n1_ := Aside0.mk (hbox); have n2_ := Aside0.mk ((by rw [hg]; exact (below_size (by repeat (first | (with_reducible first | exact HB.out | apply below_alloc | apply pw_below_drewN | apply below_drew1) | exact HB.out))) : w.heap.size ≤ gb166)); have n3_ := Aside0.mk ((by rw [hg]; exact (below_size (by repeat (first | (with_reducible first | exact HB.out | apply below_alloc | apply pw_below_drewN | apply below_drew1) | exact HB.out))) : w.heap.size ≤ gb166)); clear HB; have HB := n0_; have BK166 := n1_; have GW166 := n2_; have GE166 := n3_; clear n0_ n1_ n2_ n3_; clear hb hbox hg; have hcz28_0 : w27.cell? ⟨gb166, 0, none⟩ = some (.bool false) := (blk_cell BK166.out 0).trans rfl; have hcz28_1 : w27.cell? ⟨gb166, 1, none⟩ = some (.int .i64 0) := (blk_cell BK166.out 1).trans rfl; have hcz28_2 : w27.cell? ⟨gb166, 2, none⟩ = some (.int .i64 0) := (blk_cell BK166.out 2).trans rfl; have hcz28_3 : w27.cell? ⟨gb166, 3, none⟩ = some (.int .i64 0) := (blk_cell BK166.out 3).trans rfl; have hfz28_0 := blk_frozen BK166.out 0; have hfz28_1 := blk_frozen BK166.out 1; have hfz28_2 := blk_frozen BK166.out 2; have hfz28_3 := blk_frozen BK166.out 3)); try go_wp2_with (first | ((with_reducible refine gate_dst (N := 8) rfl ?_); refine box_event ?hg (N := 8) ?hd (cs := #[.bool false, .int .i64 0, .int .i64 0, .int .i64 0]) (t := 38) ?hr ?_; (case hd => rfl); (case hg => rfl); (case hr => first | (go_simp; done) | (go_simp; rfl)); intro gb166 hg w27 hbox hb; have n0_ := Aside0.mk (below_step (by repeat (first | (with_reducible first | exact HB.out | apply below_alloc | apply pw_below_drewN | apply below_drew1) | exact HB.out)) hb); have n1_ := Aside0.mk (hbox); have n2_ := Aside0.mk ((by rw [hg]; exact (below_size (by repeat (first | (with_reducible first | exact HB.out | apply below_alloc | apply pw_below_drewN | apply below_drew1) | exact HB.out))) : w.heap.size ≤ gb166)); have n3_ := Aside0.mk ((by rw [hg]; exact (below_size (by repeat (first | (with_reducible first | exact HB.out | apply below_alloc | apply pw_below_drewN | apply below_drew1) | exact HB.out))) : w.heap.size ≤ gb166)); clear HB; have HB := n0_; have BK166 := n1_; have GW166 := n2_; have GE166 := n3_; clear n0_ n1_ n2_ n3_; clear hb hbox hg; have hcz28_0 : w27.cell? ⟨gb166, 0, none⟩ = some (.bool false) := (blk_cell BK166.out 0).trans rfl; have hcz28_1 : w27.cell? ⟨gb166, 1, none⟩ = some (.int .i64 0) := (blk_cell BK166.out 1).trans rfl; have hcz28_2 : w27.cell? ⟨gb166, 2, none⟩ = some (.int .i64 0) := (blk_cell BK166.out 2).trans rfl; have hcz28_3 : w27.cell? ⟨gb166, 3, none⟩ = some (.int .i64 0) := (blk_cell BK166.out 3).trans rfl; have hfz28_0 := blk_frozen BK166.out 0; have hfz28_1 := blk_frozen BK166.out 1; have hfz28_2 := blk_frozen BK166.out 2; have hfz28_3 := blk_frozen BK166.out 3)))
           go_ret
           exact ⟨by first | rfl | (simp [errW_none, errW_some] <;> rfl) | (simp [*, errW_none, errW_some] <;> rfl), by repeat (first | (with_reducible first | exact HB.out | apply below_alloc | apply pw_below_drewN | apply below_drew1 | refine below_set ?_ GE166.out) | exact HB.out)⟩
          ·rw [if_neg c26] at H
           have c26b0 : ((Int.tmod (wrap64 (a2 - ((rd_T38 l1 x13_1).f1))) ((rd_T38 l1 x13_1).f3)) == 0) = false := beq_eq_false_iff_ne.mpr c26
           have c26b1 : ((Int.tmod (wrap64 (a2 - ((rd_T38 l1 x13_1).f1))) ((rd_T38 l1 x13_1).f3)) != 0) = true := bne_iff_ne.mpr c26
           have H' := Aside0.mk H
           clear H
           have p165 : 0 ≤ (x13_1 : Int) := of_decide_eq_true (by first | (with_reducible assumption) | assumption)
           have q165 : x13_1 < (l1.length : Int) := of_decide_eq_true (by first | (with_reducible assumption) | assumption)
           obtain ⟨ad165, e165, hx165_0, hx165_1, hx165_2, hx165_3⟩ := at_T38 HR1.out x13_1 p165 q165
           (try rw [← Nbq7.out] at hx165_0)
           cases e165
           replace hx165_0 := (HB.out.cell (World.block_lt_of_cell? w _ hx165_0)).trans hx165_0
           replace hx165_1 := (HB.out.cell (World.block_lt_of_cell? w _ hx165_1)).trans hx165_1
           replace hx165_2 := (HB.out.cell (World.block_lt_of_cell? w _ hx165_2)).trans hx165_2
           replace hx165_3 := (HB.out.cell (World.block_lt_of_cell? w _ hx165_3)).trans hx165_3
           replace p165 := eq_true p165
           replace q165 := eq_true q165
           go_wp2_with (first | ((with_reducible refine gate_dst (N := 8) rfl ?_); refine box_event ?hg (N := 8) ?hd (cs := #[.bool false, .int .i64 0, .int .i64 0, .int .i64 0]) (t := 38) ?hr ?_; (case hd => rfl); (case hg => rfl); (case hr => first | (go_simp; done) | (go_simp; rfl)); intro gb166 hg w29 hbox hb; have n0_ := Aside0.mk (below_step (by repeat (first | (with_reducible first | exact HB.out | apply below_alloc | apply pw_below_drewN | apply below_drew1) | exact HB.out)) hb); have n1_ := Aside0.mk (hbox); have n2_ := Aside0.mk ((by rw [hg]; exact (below_size (by repeat (first | (with_reducible first | exact HB.out | apply below_alloc | apply pw_below_drewN | apply below_drew1) | exact HB.out))) : w.heap.size ≤ gb166)); have n3_ := Aside0.mk ((by rw [hg]; exact (below_size (by repeat (first | (with_reducible first | exact HB.out | apply below_alloc | apply pw_below_drewN | apply below_drew1) | exact HB.out))) : w.heap.size ≤ gb166)); clear HB; have HB := n0_; have BK166 := n1_; have GW166 := n2_; have GE166 := n3_; clear n0_ n1_ n2_ n3_; clear hb hbox hg; have hcz30_0 : w29.cell? ⟨gb166, 0, none⟩ = some (.bool false) := (blk_cell BK166.out 0).trans rfl; have hcz30_1 : w29.cell? ⟨gb166, 1, none⟩ = some (.int .i64 0) := (blk_cell BK166.out 1).trans rfl; have hcz30_2 : w29.cell? ⟨gb166, 2, none⟩ = some (.int .i64 0) := (blk_cell BK166.out 2).trans rfl; have hcz30_3 : w29.cell? ⟨gb166, 3, none⟩ = some (.int .i64 0) := (blk_cell BK166.out 3).trans rfl; have hfz30_0 := blk_frozen BK166.out 0; have hfz30_1 := blk_frozen BK166.out 1; have hfz30_2 := blk_frozen BK166.out 2; have hfz30_3 := blk_frozen BK166.out 3))
           repeat (go_quiet (first | ((with_reducible refine gate_dst (N := 8) rfl ?_); refine box_event ?hg (N := 8) ?hd (cs := #[.bool false, .int .i64 0, .int .i64 0, .int .i64 0]) (t := 38) ?hr ?_; (case hd => rfl); (case hg => rfl); (case hr => first | (go_simp; done) | (go_simp; rfl)); intro gb166 hg w29 hbox hb; have n0_ := Aside0.mk (below_step (by repeat (first | (with_reducible first | exact HB.out | apply below_alloc | apply pw_below_drewN | apply below_drew1) | exact HB.out)) hb); have n1_ := Aside0.mk (hbox); have n2_ := Aside0.mk ((by rw [hg]; exact (below_size (by repeat (first | (with_reducible first | exact HB.out | apply below_alloc | apply pw_below_drewN | apply below_drew1) | exact HB.out))) : w.heap.size ≤ gb166)); have n3_ := Aside0.mk ((by rw [hg]; exact (below_size (by repeat (first | (with_reducible first | exact HB.out | apply below_alloc | apply pw_below_drewN | apply below_drew1) | exact HB.out))) : w.heap.size ≤ gb166)); clear HB; have HB := n0_; have BK166 := n1_; have GW166 := n2_; have GE166 := n3_; clear n0_ n1_ n2_ n3_; clear hb hbox hg; have hcz30_0 : w29.cell? ⟨gb166, 0, none⟩ = some (.bool false) := (blk_cell BK166.out 0).trans rfl; have hcz30_1 : w29.cell? ⟨gb166, 1, none⟩ = some (.int .i64 0) := (blk_cell BK166.out 1).trans rfl; have hcz30_2 : w29.cell? ⟨gb166, 2, none⟩ = some (.int .i64 0) := (blk_cell BK166.out 2).trans rfl; have hcz30_3 : w29.cell? ⟨gb166, 3, none⟩ = some (.int .i64 0) := (blk_cell BK166.out 3).trans rfl; have hfz30_0 := blk_frozen BK166.out 0; have hfz30_1 := blk_frozen BK166.out 1; have hfz30_2 := blk_frozen BK166.out 2; have hfz30_3 := blk_frozen BK166.out 3)); try go_wp2_with (first | ((with_reducible refine gate_dst (N := 8) rfl ?_); refine box_event ?hg (N := 8) ?hd (cs := #[.bool false, .int .i64 0, .int .i64 0, .int .i64 0]) (t := 38) ?hr ?_; (case hd => rfl); (case hg => rfl); (case hr => first | (go_simp; done) | (go_simp; rfl)); intro gb166 hg w29 hbox hb; have n0_ := Aside0.mk (below_step (by repeat (first | (with_reducible first | exact HB.out | apply below_alloc | apply pw_below_drewN | apply below_drew1) | exact HB.out)) hb); have n1_ := Aside0.mk (hbox); have n2_ := Aside0.mk ((by rw [hg]; exact (below_size (by repeat (first | (with_reducible first | exact HB.out | apply below_alloc | apply pw_below_drewN | apply below_drew1) | exact HB.out))) : w.heap.size ≤ gb166)); have n3_ := Aside0.mk ((by rw [hg]; exact (below_size (by repeat (first | (with_reducible first | exact HB.out | apply below_alloc | apply pw_below_drewN | apply below_drew1) | exact HB.out))) : w.heap.size ≤ gb166)); clear HB; have HB := n0_; have BK166 := n1_; have GW166 := n2_; have GE166 := n3_; clear n0_ n1_ n2_ n3_; clear hb hbox hg; have hcz30_0 : w29.cell? ⟨gb166, 0, none⟩ = some (.bool false) := (blk_cell BK166.out 0).trans rfl; have hcz30_1 : w29.cell? ⟨gb166, 1, none⟩ = some (.int .i64 0) := (blk_cell BK166.out 1).trans rfl; have hcz30_2 : w29.cell? ⟨gb166, 2, none⟩ = some (.int .i64 0) := (blk_cell BK166.out 2).trans rfl; have hcz30_3 : w29.cell? ⟨gb166, 3, none⟩ = some (.int .i64 0) := (blk_cell BK166.out 3).trans rfl; have hfz30_0 := blk_frozen BK166.out 0; have hfz30_1 := blk_frozen BK166.out 1; have hfz30_2 := blk_frozen BK166.out 2; have hfz30_3 := blk_frozen BK166.out 3)))
           go_roundg k1
           case measure => have := HK1.out; omega
           case rel => exact ⟨(wrap64 (x13_1 + 1)), (by first | rfl | (simp; done) | (simp [*]; done)), H', ⟨by have := HK1.out; omega⟩, ⟨by repeat (first | (with_reducible first | exact HB.out | apply below_alloc | apply pw_below_drewN | apply below_drew1 | refine below_set ?_ GE166.out) | exact HB.out)⟩⟩
        ·rw [if_neg c24] at H
         have c24b0 : decide (a2 ≤ ((rd_T38 l1 x13_1).f2)) = false := decide_eq_false c24
         clear c24
         have H' := Aside0.mk H
         clear H
         have p165 : 0 ≤ (x13_1 : Int) := of_decide_eq_true (by first | (with_reducible assumption) | assumption)
         have q165 : x13_1 < (l1.length : Int) := of_decide_eq_true (by first | (with_reducible assumption) | assumption)
         obtain ⟨ad165, e165, hx165_0, hx165_1, hx165_2, hx165_3⟩ := at_T38 HR1.out x13_1 p165 q165
         (try rw [← Nbq7.out] at hx165_0)
         cases e165
         replace hx165_0 := (HB.out.cell (World.block_lt_of_cell? w _ hx165_0)).trans hx165_0
         replace hx165_1 := (HB.out.cell (World.block_lt_of_cell? w _ hx165_1)).trans hx165_1
         replace hx165_2 := (HB.out.cell (World.block_lt_of_cell? w _ hx165_2)).trans hx165_2
         replace hx165_3 := (HB.out.cell (World.block_lt_of_cell? w _ hx165_3)).trans hx165_3
         replace p165 := eq_true p165
         replace q165 := eq_true q165
         go_wp2_with (first | ((with_reducible refine gate_dst (N := 8) rfl ?_); refine box_event ?hg (N := 8) ?hd (cs := #[.bool false, .int .i64 0, .int .i64 0, .int .i64 0]) (t := 38) ?hr ?_; (case hd => rfl); (case hg => rfl); (case hr => first | (go_simp; done) | (go_simp; rfl)); intro gb166 hg w31 hbox hb; have n0_ := Aside0.mk (below_step (by repeat (first | (with_reducible first | exact HB.out | apply below_alloc | apply pw_below_drewN | apply below_drew1) | exact HB.out)) hb); have n1_ := Aside0.mk (hbox); have n2_ := Aside0.mk ((by rw [hg]; exact (below_size (by repeat (first | (with_reducible first | exact HB.out | apply below_alloc | apply pw_below_drewN | apply below_drew1) | exact HB.out))) : w.heap.size ≤ gb166)); have n3_ := Aside0.mk ((by rw [hg]; exact (below_size (by repeat (first | (with_reducible first | exact HB.out | apply below_alloc | apply pw_below_drewN | apply below_drew1) | exact HB.out))) : w.heap.size ≤ gb166)); clear HB; have HB := n0_; have BK166 := n1_; have GW166 := n2_; have GE166 := n3_; clear n0_ n1_ n2_ n3_; clear hb hbox hg; have hcz32_0 : w31.cell? ⟨gb166, 0, none⟩ = some (.bool false) := (blk_cell BK166.out 0).trans rfl; have hcz32_1 : w31.cell? ⟨gb166, 1, none⟩ = some (.int .i64 0) := (blk_cell BK166.out 1).trans rfl; have hcz32_2 : w31.cell? ⟨gb166, 2, none⟩ = some (.int .i64 0) := (blk_cell BK166.out 2).trans rfl; have hcz32_3 : w31.cell? ⟨gb166, 3, none⟩ = some (.int .i64 0) := (blk_cell BK166.out 3).trans rfl; have hfz32_0 := blk_frozen BK166.out 0; have hfz32_1 := blk_frozen BK166.out 1; have hfz32_2 := blk_frozen BK166.out 2; have hfz32_3 := blk_frozen BK166.out 3))
         repeat (go_quiet (first | ((with_reducible refine gate_dst (N := 8) rfl ?_); refine box_event ?hg (N := 8) ?hd (cs := #[.bool false, .int .i64 0, .int .i64 0, .int .i64 0]) (t := 38) ?hr ?_; (case hd => rfl); (case hg => rfl); (case hr => first | (go_simp; done) | (go_simp; rfl)); intro gb166 hg w31 hbox hb; have n0_ := Aside0.mk (below_step (by repeat (first | (with_reducible first | exact HB.out | apply below_alloc | apply pw_below_drewN | apply below_drew1) | exact HB.out)) hb); have n1_ := Aside0.mk (hbox); have n2_ := Aside0.mk ((by rw [hg]; exact (below_size (by repeat (first | (with_reducible first | exact HB.out | apply below_alloc | apply pw_below_drewN | apply below_drew1) | exact HB.out))) : w.heap.size ≤ gb166)); have n3_ := Aside0.mk ((by rw [hg]; exact (below_size (by repeat (first | (with_reducible first | exact HB.out | apply below_alloc | apply pw_below_drewN | apply below_drew1) | exact HB.out))) : w.heap.size ≤ gb166)); clear HB; have HB := n0_; have BK166 := n1_; have GW166 := n2_; have GE166 := n3_; clear n0_ n1_ n2_ n3_; clear hb hbox hg; have hcz32_0 : w31.cell? ⟨gb166, 0, none⟩ = some (.bool false) := (blk_cell BK166.out 0).trans rfl; have hcz32_1 : w31.cell? ⟨gb166, 1, none⟩ = some (.int .i64 0) := (blk_cell BK166.out 1).trans rfl; have hcz32_2 : w31.cell? ⟨gb166, 2, none⟩ = some (.int .i64 0) := (blk_cell BK166.out 2).trans rfl; have hcz32_3 : w31.cell? ⟨gb166, 3, none⟩ = some (.int .i64 0) := (blk_cell BK166.out 3).trans rfl; have hfz32_0 := blk_frozen BK166.out 0; have hfz32_1 := blk_frozen BK166.out 1; have hfz32_2 := blk_frozen BK166.out 2; have hfz32_3 := blk_frozen BK166.out 3)); try go_wp2_with (first | ((with_reducible refine gate_dst (N := 8) rfl ?_); refine box_event ?hg (N := 8) ?hd (cs := #[.bool false, .int .i64 0, .int .i64 0, .int .i64 0]) (t := 38) ?hr ?_; (case hd => rfl); (case hg => rfl); (case hr => first | (go_simp; done) | (go_simp; rfl)); intro gb166 hg w31 hbox hb; have n0_ := Aside0.mk (below_step (by repeat (first | (with_reducible first | exact HB.out | apply below_alloc | apply pw_below_drewN | apply below_drew1) | exact HB.out)) hb); have n1_ := Aside0.mk (hbox); have n2_ := Aside0.mk ((by rw [hg]; exact (below_size (by repeat (first | (with_reducible first | exact HB.out | apply below_alloc | apply pw_below_drewN | apply below_drew1) | exact HB.out))) : w.heap.size ≤ gb166)); have n3_ := Aside0.mk ((by rw [hg]; exact (below_size (by repeat (first | (with_reducible first | exact HB.out | apply below_alloc | apply pw_below_drewN | apply below_drew1) | exact HB.out))) : w.heap.size ≤ gb166)); clear HB; have HB := n0_; have BK166 := n1_; have GW166 := n2_; have GE166 := n3_; clear n0_ n1_ n2_ n3_; clear hb hbox hg; have hcz32_0 : w31.cell? ⟨gb166, 0, none⟩ = some (.bool false) := (blk_cell BK166.out 0).trans rfl; have hcz32_1 : w31.cell? ⟨gb166, 1, none⟩ = some (.int .i64 0) := (blk_cell BK166.out 1).trans rfl; have hcz32_2 : w31.cell? ⟨gb166, 2, none⟩ = some (.int .i64 0) := (blk_cell BK166.out 2).trans rfl; have hcz32_3 : w31.cell? ⟨gb166, 3, none⟩ = some (.int .i64 0) := (blk_cell BK166.out 3).trans rfl; have hfz32_0 := blk_frozen BK166.out 0; have hfz32_1 := blk_frozen BK166.out 1; have hfz32_2 := blk_frozen BK166.out 2; have hfz32_3 := blk_frozen BK166.out 3)))
         go_roundg k1
         case measure => have := HK1.out; omega
         case rel => exact ⟨(wrap64 (x13_1 + 1)), (by first | rfl | (simp; done) | (simp [*]; done)), H', ⟨by have := HK1.out; omega⟩, ⟨by repeat (first | (with_reducible first | exact HB.out | apply below_alloc | apply pw_below_drewN | apply below_drew1 | refine below_set ?_ GE166.out) | exact HB.out)⟩⟩
       ·rw [if_neg c23] at H
        have c23b0 : decide (((rd_T38 l1 x13_1).f1) ≤ a2) = false := decide_eq_false c23
        clear c23
        have H' := Aside0.mk H
        clear H
        have p165 : 0 ≤ (x13_1 : Int) := of_decide_eq_true (by first | (with_reducible assumption) | assumption)
        have q165 : x13_1 < (l1.length : Int) := of_decide_eq_true (by first | (with_reducible assumption) | assumption)
        obtain ⟨ad165, e165, hx165_0, hx165_1, hx165_2, hx165_3⟩ := at_T38 HR1.out x13_1 p165 q165
        (try rw [← Nbq7.out] at hx165_0)
        cases e165
        replace hx165_0 := (HB.out.cell (World.block_lt_of_cell? w _ hx165_0)).trans hx165_0
        replace hx165_1 := (HB.out.cell (World.block_lt_of_cell? w _ hx165_1)).trans hx165_1
        replace hx165_2 := (HB.out.cell (World.block_lt_of_cell? w _ hx165_2)).trans hx165_2
        replace hx165_3 := (HB.out.cell (World.block_lt_of_cell? w _ hx165_3)).trans hx165_3
        replace p165 := eq_true p165
        replace q165 := eq_true q165
        go_wp2_with (first | ((with_reducible refine gate_dst (N := 8) rfl ?_); refine box_event ?hg (N := 8) ?hd (cs := #[.bool false, .int .i64 0, .int .i64 0, .int .i64 0]) (t := 38) ?hr ?_; (case hd => rfl); (case hg => rfl); (case hr => first | (go_simp; done) | (go_simp; rfl)); intro gb166 hg w33 hbox hb; have n0_ := Aside0.mk (below_step (by repeat (first | (with_reducible first | exact HB.out | apply below_alloc | apply pw_below_drewN | apply below_drew1) | exact HB.out)) hb); have n1_ := Aside0.mk (hbox); have n2_ := Aside0.mk ((by rw [hg]; exact (below_size (by repeat (first | (with_reducible first | exact HB.out | apply below_alloc | apply pw_below_drewN | apply below_drew1) | exact HB.out))) : w.heap.size ≤ gb166)); have n3_ := Aside0.mk ((by rw [hg]; exact (below_size (by repeat (first | (with_reducible first | exact HB.out | apply below_alloc | apply pw_below_drewN | apply below_drew1) | exact HB.out))) : w.heap.size ≤ gb166)); clear HB; have HB := n0_; have BK166 := n1_; have GW166 := n2_; have GE166 := n3_; clear n0_ n1_ n2_ n3_; clear hb hbox hg; have hcz34_0 : w33.cell? ⟨gb166, 0, none⟩ = some (.bool false) := (blk_cell BK166.out 0).trans rfl; have hcz34_1 : w33.cell? ⟨gb166, 1, none⟩ = some (.int .i64 0) := (blk_cell BK166.out 1).trans rfl; have hcz34_2 : w33.cell? ⟨gb166, 2, none⟩ = some (.int .i64 0) := (blk_cell BK166.out 2).trans rfl; have hcz34_3 : w33.cell? ⟨gb166, 3, none⟩ = some (.int .i64 0) := (blk_cell BK166.out 3).trans rfl; have hfz34_0 := blk_frozen BK166.out 0; have hfz34_1 := blk_frozen BK166.out 1; have hfz34_2 := blk_frozen BK166.out 2; have hfz34_3 := blk_frozen BK166.out 3))
        repeat (go_quiet (first | ((with_reducible refine gate_dst (N := 8) rfl ?_); refine box_event ?hg (N := 8) ?hd (cs := #[.bool false, .int .i64 0, .int .i64 0, .int .i64 0]) (t := 38) ?hr ?_; (case hd => rfl); (case hg => rfl); (case hr => first | (go_simp; done) | (go_simp; rfl)); intro gb166 hg w33 hbox hb; have n0_ := Aside0.mk (below_step (by repeat (first | (with_reducible first | exact HB.out | apply below_alloc | apply pw_below_drewN | apply below_drew1) | exact HB.out)) hb); have n1_ := Aside0.mk (hbox); have n2_ := Aside0.mk ((by rw [hg]; exact (below_size (by repeat (first | (with_reducible first | exact HB.out | apply below_alloc | apply pw_below_drewN | apply below_drew1) | exact HB.out))) : w.heap.size ≤ gb166)); have n3_ := Aside0.mk ((by rw [hg]; exact (below_size (by repeat (first | (with_reducible first | exact HB.out | apply below_alloc | apply pw_below_drewN | apply below_drew1) | exact HB.out))) : w.heap.size ≤ gb166)); clear HB; have HB := n0_; have BK166 := n1_; have GW166 := n2_; have GE166 := n3_; clear n0_ n1_ n2_ n3_; clear hb hbox hg; have hcz34_0 : w33.cell? ⟨gb166, 0, none⟩ = some (.bool false) := (blk_cell BK166.out 0).trans rfl; have hcz34_1 : w33.cell? ⟨gb166, 1, none⟩ = some (.int .i64 0) := (blk_cell BK166.out 1).trans rfl; have hcz34_2 : w33.cell? ⟨gb166, 2, none⟩ = some (.int .i64 0) := (blk_cell BK166.out 2).trans rfl; have hcz34_3 : w33.cell? ⟨gb166, 3, none⟩ = some (.int .i64 0) := (blk_cell BK166.out 3).trans rfl; have hfz34_0 := blk_frozen BK166.out 0; have hfz34_1 := blk_frozen BK166.out 1; have hfz34_2 := blk_frozen BK166.out 2; have hfz34_3 := blk_frozen BK166.out 3)); try go_wp2_with (first | ((with_reducible refine gate_dst (N := 8) rfl ?_); refine box_event ?hg (N := 8) ?hd (cs := #[.bool false, .int .i64 0, .int .i64 0, .int .i64 0]) (t := 38) ?hr ?_; (case hd => rfl); (case hg => rfl); (case hr => first | (go_simp; done) | (go_simp; rfl)); intro gb166 hg w33 hbox hb; have n0_ := Aside0.mk (below_step (by repeat (first | (with_reducible first | exact HB.out | apply below_alloc | apply pw_below_drewN | apply below_drew1) | exact HB.out)) hb); have n1_ := Aside0.mk (hbox); have n2_ := Aside0.mk ((by rw [hg]; exact (below_size (by repeat (first | (with_reducible first | exact HB.out | apply below_alloc | apply pw_below_drewN | apply below_drew1) | exact HB.out))) : w.heap.size ≤ gb166)); have n3_ := Aside0.mk ((by rw [hg]; exact (below_size (by repeat (first | (with_reducible first | exact HB.out | apply below_alloc | apply pw_below_drewN | apply below_drew1) | exact HB.out))) : w.heap.size ≤ gb166)); clear HB; have HB := n0_; have BK166 := n1_; have GW166 := n2_; have GE166 := n3_; clear n0_ n1_ n2_ n3_; clear hb hbox hg; have hcz34_0 : w33.cell? ⟨gb166, 0, none⟩ = some (.bool false) := (blk_cell BK166.out 0).trans rfl; have hcz34_1 : w33.cell? ⟨gb166, 1, none⟩ = some (.int .i64 0) := (blk_cell BK166.out 1).trans rfl; have hcz34_2 : w33.cell? ⟨gb166, 2, none⟩ = some (.int .i64 0) := (blk_cell BK166.out 2).trans rfl; have hcz34_3 : w33.cell? ⟨gb166, 3, none⟩ = some (.int .i64 0) := (blk_cell BK166.out 3).trans rfl; have hfz34_0 := blk_frozen BK166.out 0; have hfz34_1 := blk_frozen BK166.out 1; have hfz34_2 := blk_frozen BK166.out 2; have hfz34_3 := blk_frozen BK166.out 3)))
        go_roundg k1
        case measure => have := HK1.out; omega
        case rel => exact ⟨(wrap64 (x13_1 + 1)), (by first | rfl | (simp; done) | (simp [*]; done)), H', ⟨by have := HK1.out; omega⟩, ⟨by repeat (first | (with_reducible first | exact HB.out | apply below_alloc | apply pw_below_drewN | apply below_drew1 | refine below_set ?_ GE166.out) | exact HB.out)⟩⟩
     ·rw [if_neg c6] at H
      exact absurd H (by simp)
    ·rw [if_neg c5] at H
     exact absurd H (by simp)
   ·rw [if_neg c4] at H
    have c4b0 : decide (x13_1 < (l1.length : Int)) = false := decide_eq_false c4
    clear c4
    obtain rfl := Option.some.inj H
    go_wp2
    repeat (go_quiet (fail); try go_wp2)
    go_ret
    exact ⟨by first | rfl | (simp [errW_none, errW_some] <;> rfl) | (simp [*, errW_none, errW_some] <;> rfl), by repeat (first | (with_reducible first | exact HB.out | apply below_alloc | apply pw_below_drewN | apply below_drew1) | exact HB.out)⟩
def spec_Leap.f (a0 : Int) : Option (Bool) := if (Int.tmod a0 4) = 0 then (if (Int.tmod a0 100) = 0 then (some ((Int.tmod a0 400) == 0)) else (some true)) else (some false)
set_option maxHeartbeats 8000000 in
set_option maxRecDepth 100000 in
theorem spec_Leap.calls (a0 : Int) (r : Bool) (w : World) (h : spec_Leap.f a0 = some r) :
  Calls Tryz.prog 45 #[.int .i64 a0] w fun e w' => e = .returned (.bool r) ∧ Drawn0 w w' := by
 have H : (if (Int.tmod a0 4) = 0 then (if (Int.tmod a0 100) = 0 then (some ((Int.tmod a0 400) == 0)) else (some true)) else (some false)) = some r := h
 clear h
 by_cases c2 : (Int.tmod a0 4) = 0
 ·rw [if_pos c2] at H
  have c2b0 : ((Int.tmod a0 4) == 0) = true := beq_iff_eq.mpr c2
  have c2b1 : ((Int.tmod a0 4) != 0) = false := bne_eq_false_iff_eq.mpr c2
  clear c2
  by_cases c3 : (Int.tmod a0 100) = 0
  ·rw [if_pos c3] at H
   have c3b0 : ((Int.tmod a0 100) == 0) = true := beq_iff_eq.mpr c3
   have c3b1 : ((Int.tmod a0 100) != 0) = false := bne_eq_false_iff_eq.mpr c3
   clear c3
   obtain rfl := Option.some.inj H
   go_enter Tryz.func45, Tryz.ntmps45
   go_wp2
   go_ret
   exact ⟨by first | rfl | (simp; done) | (simp [*]; done), by repeat (first | exact Drawn0.refl _ | apply Drawn0.step)⟩
  ·rw [if_neg c3] at H
   have c3b0 : ((Int.tmod a0 100) == 0) = false := beq_eq_false_iff_ne.mpr c3
   have c3b1 : ((Int.tmod a0 100) != 0) = true := bne_iff_ne.mpr c3
   obtain rfl := Option.some.inj H
   go_enter Tryz.func45, Tryz.ntmps45
   go_wp2
   go_ret
   exact ⟨by first | rfl | (simp; done) | (simp [*]; done), by repeat (first | exact Drawn0.refl _ | apply Drawn0.step)⟩
 ·rw [if_neg c2] at H
  have c2b0 : ((Int.tmod a0 4) == 0) = false := beq_eq_false_iff_ne.mpr c2
  have c2b1 : ((Int.tmod a0 4) != 0) = true := bne_iff_ne.mpr c2
  obtain rfl := Option.some.inj H
  go_enter Tryz.func45, Tryz.ntmps45
  go_wp2
  go_ret
  exact ⟨by first | rfl | (simp; done) | (simp [*]; done), by repeat (first | exact Drawn0.refl _ | apply Drawn0.step)⟩
def spec_Days.f (a0 : Int) (a1 : Int) : Option (Int) := if a1 = 2 then ((spec_Leap.f a0).bind fun t169 => (if t169 = true then (some 29) else (if 0 ≤ a1 then (if a1 < 13 then (some (rd [0, 31, 28, 31, 30, 31, 30, 31, 31, 30, 31, 30, 31] a1)) else (none)) else (none)))) else (if 0 ≤ a1 then (if a1 < 13 then (some (rd [0, 31, 28, 31, 30, 31, 30, 31, 31, 30, 31, 30, 31] a1)) else (none)) else (none))
set_option maxHeartbeats 8000000 in
set_option maxRecDepth 100000 in
theorem spec_Days.calls (a0 : Int) (a1 : Int) (r : Int) (w : World) (h : spec_Days.f a0 a1 = some r) :
  Calls Tryz.prog 37 #[.int .i64 a0, .int .i64 a1] w fun e w' => e = .returned (.int .i64 r) ∧ Drawn0 w w' := by
 have hu106 := Tryz.underlying106
 have H : (if a1 = 2 then ((spec_Leap.f a0).bind fun t169 => (if t169 = true then (some 29) else (if 0 ≤ a1 then (if a1 < 13 then (some (rd [0, 31, 28, 31, 30, 31, 30, 31, 31, 30, 31, 30, 31] a1)) else (none)) else (none)))) else (if 0 ≤ a1 then (if a1 < 13 then (some (rd [0, 31, 28, 31, 30, 31, 30, 31, 31, 30, 31, 30, 31] a1)) else (none)) else (none))) = some r := h
 clear h
 by_cases c3 : a1 = 2
 ·rw [if_pos c3] at H
  have c3b0 : (a1 == 2) = true := beq_iff_eq.mpr c3
  have c3b1 : (a1 != 2) = false := bne_eq_false_iff_eq.mpr c3
  clear c3
  replace H := Option.bind_eq_some_iff.mp H
  obtain ⟨t169, A40, H⟩ := H
  replace H : (if t169 = true then (some 29) else (if 0 ≤ a1 then (if a1 < 13 then (some (rd [0, 31, 28, 31, 30, 31, 30, 31, 31, 30, 31, 30, 31] a1)) else (none)) else (none))) = some r := H
  have A4 := Aside0.mk A40
  clear A40
  by_cases c5 : t169 = true
  ·subst c5
   have H1 : (some 29) = some r := by rw [if_pos rfl] at H; exact H
   clear H
   have H := H1
   clear H1
   obtain rfl := Option.some.inj H
   go_enter Tryz.func37, Tryz.ntmps37
   go_wp2_with (first | (go_at_call 45; (with_reducible refine (spec_Leap.calls a0 true _ A4.out).mono ?_); rintro e w' ⟨rfl, ⟨nd, rfl⟩⟩))
   go_ret
   exact ⟨by first | rfl | (simp; done) | (simp [*]; done), by repeat (first | exact Drawn0.refl _ | apply Drawn0.step)⟩
  ·replace c5 := Bool.eq_false_iff.mpr c5
   subst c5
   have H1 : (if 0 ≤ a1 then (if a1 < 13 then (some (rd [0, 31, 28, 31, 30, 31, 30, 31, 31, 30, 31, 30, 31] a1)) else (none)) else (none)) = some r := by rw [if_neg (show ¬ (false = true) by decide)] at H; exact H
   clear H
   have H := H1
   clear H1
   by_cases c6 : 0 ≤ a1
   ·rw [if_pos c6] at H
    have c6b0 : decide (0 ≤ a1) = true := decide_eq_true c6
    clear c6
    by_cases c7 : a1 < 13
    ·rw [if_pos c7] at H
     have c7b0 : decide (a1 < 13) = true := decide_eq_true c7
     clear c7
     have hixz170_ := fun w_ : World => (index_T106 0 31 28 31 30 31 30 31 31 30 31 30 31 a1 (of_decide_eq_true (by first | (with_reducible assumption) | assumption)) (of_decide_eq_true (by first | (with_reducible assumption) | assumption)) w_ : (Instr.index 106 (.agg #[.int .i64 0, .int .i64 31, .int .i64 28, .int .i64 31, .int .i64 30, .int .i64 31, .int .i64 30, .int .i64 31, .int .i64 31, .int .i64 30, .int .i64 31, .int .i64 30, .int .i64 31]) (.int .i64 a1)).run Tryz.prog w_ = .ok (.int .i64 (rd [0, 31, 28, 31, 30, 31, 30, 31, 31, 30, 31, 30, 31] a1)) w_)
     obtain rfl := Option.some.inj H
     go_enter Tryz.func37, Tryz.ntmps37
     go_wp2_with (first | (go_at_call 45; (with_reducible refine (spec_Leap.calls a0 false _ A4.out).mono ?_); rintro e w' ⟨rfl, ⟨nd, rfl⟩⟩))
     go_ret
     exact ⟨by first | rfl | (simp; done) | (simp [*]; done), by repeat (first | exact Drawn0.refl _ | apply Drawn0.step)⟩
    ·rw [if_neg c7] at H
     exact absurd H (by simp)
   ·rw [if_neg c6] at H
    exact absurd H (by simp)
 ·rw [if_neg c3] at H
  have c3b0 : (a1 == 2) = false := beq_eq_false_iff_ne.mpr c3
  have c3b1 : (a1 != 2) = true := bne_iff_ne.mpr c3
  by_cases c8 : 0 ≤ a1
  ·rw [if_pos c8] at H
   have c8b0 : decide (0 ≤ a1) = true := decide_eq_true c8
   clear c8
   by_cases c9 : a1 < 13
   ·rw [if_pos c9] at H
    have c9b0 : decide (a1 < 13) = true := decide_eq_true c9
    clear c9
    have hixz171_ := fun w_ : World => (index_T106 0 31 28 31 30 31 30 31 31 30 31 30 31 a1 (of_decide_eq_true (by first | (with_reducible assumption) | assumption)) (of_decide_eq_true (by first | (with_reducible assumption) | assumption)) w_ : (Instr.index 106 (.agg #[.int .i64 0, .int .i64 31, .int .i64 28, .int .i64 31, .int .i64 30, .int .i64 31, .int .i64 30, .int .i64 31, .int .i64 31, .int .i64 30, .int .i64 31, .int .i64 30, .int .i64 31]) (.int .i64 a1)).run Tryz.prog w_ = .ok (.int .i64 (rd [0, 31, 28, 31, 30, 31, 30, 31, 31, 30, 31, 30, 31] a1)) w_)
    obtain rfl := Option.some.inj H
    go_enter Tryz.func37, Tryz.ntmps37
    go_wp2
    go_ret
    exact ⟨by first | rfl | (simp; done) | (simp [*]; done), by repeat (first | exact Drawn0.refl _ | apply Drawn0.step)⟩
   ·rw [if_neg c9] at H
    exact absurd H (by simp)
  ·rw [if_neg c8] at H
   exact absurd H (by simp)
def spec_Weekday.l0 : Nat → Int → Int → Int → Int → Option (Int)
 | 0, _, _, _, _ => none
 | k + 1, x0, x1, x8, x9 => if x9 < x1 then ((spec_Days.f x0 x9).bind fun t172 => (spec_Weekday.l0 k x0 x1 (wrap64 (x8 + t172)) (wrap64 (x9 + 1)))) else (some (Int.tmod x8 7))
def spec_Weekday.f (k : Nat) (a0 : Int) (a1 : Int) (a2 : Int) : Option (Int) := spec_Weekday.l0 k a0 a1 (wrap64 ((wrap64 ((wrap64 ((wrap64 ((wrap64 ((wrap64 (a0 - 1)) * 365)) + (wrap64 (Int.tdiv (wrap64 (a0 - 1)) 4)))) - (wrap64 (Int.tdiv (wrap64 (a0 - 1)) 100)))) + (wrap64 (Int.tdiv (wrap64 (a0 - 1)) 400)))) + a2)) 1
set_option maxHeartbeats 8000000 in
set_option maxRecDepth 100000 in
theorem spec_Weekday.calls (k : Nat) (a0 : Int) (a1 : Int) (a2 : Int) (r : Int) (w : World) (h : spec_Weekday.f k a0 a1 a2 = some r) :
  Calls Tryz.prog 38 #[.int .i64 a0, .int .i64 a1, .int .i64 a2] w fun e w' => e = .returned (.int .i64 r) ∧ Drawn0 w w' := by
 have H : (spec_Weekday.l0 k a0 a1 (wrap64 ((wrap64 ((wrap64 ((wrap64 ((wrap64 ((wrap64 (a0 - 1)) * 365)) + (wrap64 (Int.tdiv (wrap64 (a0 - 1)) 4)))) - (wrap64 (Int.tdiv (wrap64 (a0 - 1)) 100)))) + (wrap64 (Int.tdiv (wrap64 (a0 - 1)) 400)))) + a2)) 1) = some r := h
 clear h
 have H' := Aside0.mk H
 clear H
 go_enter Tryz.func38, Tryz.ntmps38
 go_wp2
 go_loopg [8, 9] k (fun kq v8 v9 w' => ∃ (x8_1 : Int) (x9_1 : Int), v8 = .int .i64 x8_1 ∧ v9 = .int .i64 x9_1 ∧ Aside0 (spec_Weekday.l0 kq a0 a1 x8_1 x9_1 = some r) ∧ Aside0 (kq ≤ k) ∧ Drawn0 w w')
 case atStart => exact ⟨(wrap64 ((wrap64 ((wrap64 ((wrap64 ((wrap64 ((wrap64 (a0 - 1)) * 365)) + (wrap64 (Int.tdiv (wrap64 (a0 - 1)) 4)))) - (wrap64 (Int.tdiv (wrap64 (a0 - 1)) 100)))) + (wrap64 (Int.tdiv (wrap64 (a0 - 1)) 400)))) + a2)), (1), (by first | rfl | (simp; done) | (simp [*]; done)), (by first | rfl | (simp; done) | (simp [*]; done)), H', ⟨Nat.le_refl _⟩, by repeat (first | exact Drawn0.refl _ | apply Drawn0.step)⟩
 case round =>
  clear H'
  obtain ⟨x8_1, x9_1, rfl, rfl, HA, HK1, ⟨m1, rfl⟩⟩ := hrel
  cases gk with
  | zero => exact absurd HA.out (by simp [spec_Weekday.l0])
  | succ k1 =>
   have H := HA.out
   clear HA
   simp only [spec_Weekday.l0] at H
   by_cases c4 : x9_1 < a1
   ·rw [if_pos c4] at H
    have c4b0 : decide (x9_1 < a1) = true := decide_eq_true c4
    clear c4
    replace H := Option.bind_eq_some_iff.mp H
    obtain ⟨t172, A50, H⟩ := H
    replace H : (spec_Weekday.l0 k1 a0 a1 (wrap64 (x8_1 + t172)) (wrap64 (x9_1 + 1))) = some r := H
    have A5 := Aside0.mk A50
    clear A50
    have H' := Aside0.mk H
    clear H
    go_wp2_with (first | ((with_reducible refine gate_callee (f := 37) rfl ?_); refine goesL_ (some 33) rfl rfl Tryz.func37 (by kernel_rfl) rfl #[.int .i64 a0, .int .i64 x9_1] rfl (by (try simp only [List.map_toArray, List.map_cons, List.map_nil]); first | done | rfl | (simp only [List.length_drop, List.length_take]; rfl)) ?_; (with_reducible refine (spec_Days.calls a0 x9_1 t172 _ A5.out).mono ?_); rintro e w' ⟨rfl, ⟨nd, rfl⟩⟩; refine ⟨_, rfl, ?_⟩))
    go_roundg k1
    case measure => have := HK1.out; omega
    case rel => exact ⟨(wrap64 (x8_1 + t172)), (wrap64 (x9_1 + 1)), (by first | rfl | (simp; done) | (simp [*]; done)), (by first | rfl | (simp; done) | (simp [*]; done)), H', ⟨by have := HK1.out; omega⟩, by repeat (first | exact Drawn0.refl _ | apply Drawn0.step)⟩
   ·rw [if_neg c4] at H
    have c4b0 : decide (x9_1 < a1) = false := decide_eq_false c4
    clear c4
    obtain rfl := Option.some.inj H
    go_wp2
    go_ret
    exact ⟨by first | rfl | (simp; done) | (simp [*]; done), by repeat (first | exact Drawn0.refl _ | apply Drawn0.step)⟩
def spec_DayFits.f (k : Nat) (l0_0 : List (List (S38))) (a0_1 : Bool) (a1_0 : Int) (a1_1 : Int) (a1_2 : Int) (a1_3 : Int) (a1_4 : Int) (a1_5 : Int) : Option (Bool) := if 3 < (l0_0.length : Int) then ((spec_Has.f k 3 (rd_L5 l0_0 3) a1_2).bind fun t176 => (if t176 = true then (if 4 < (l0_0.length : Int) then ((spec_Has.f k 4 (rd_L5 l0_0 4) a1_1).bind fun t178 => (if t178 = true then (if 5 < (l0_0.length : Int) then ((spec_Weekday.f k a1_0 a1_1 a1_2).bind fun t180 => ((spec_Has.f k 5 (rd_L5 l0_0 5) t180).bind fun t181 => (some t181))) else (none)) else (some false))) else (none)) else (some false))) else (none)
def spec_DayFits.T1 : Bool × List (List Nat × List Nat) := (true, [([], []), ([0], [0]), ([1], [1]), ([2], [2]), ([], []), ([4], [4]), ([3, 5], [3, 5]), ([6, 6], [6]), ([7], [7]), ([8, 7], [7, 8]), ([9, 7], [7, 9]), ([10, 7], [7, 10]), ([7], [7]), ([12, 7], [7, 12]), ([11, 13, 7, 7], [7, 11, 13]), ([7, 14], [7, 14]), ([15, 14], [15]), ([16], [16]), ([17, 16], [16, 17]), ([18, 16], [16, 18]), ([19, 16], [16, 19]), ([16], [16]), ([21, 16], [16, 21]), ([16], [16]), ([23, 16], [16, 23]), ([16], [16]), ([25, 16], [16, 25]), ([22, 24, 26, 16, 16], [16, 22, 24, 26]), ([20, 27, 27, 16], [16, 20, 27]), ([16, 28], [16, 28]), ([29, 28, 0, 1, 2, 3, 4, 5, 6, 7, 8, 9, 10, 11, 12, 13, 14, 15, 16, 17, 18, 19, 20, 21, 22, 23, 24, 25, 26, 27, 28, 29], [29])])
def spec_DayFits.B1 : List Nat := [0, 1, 3, 7, 0, 16, 63, 127, 255, 511, 1023, 2047, 255, 4351, 16383, 32767, 65535, 131071, 262143, 524287, 1048575, 131071, 2228223, 131071, 8519679, 131071, 33685503, 132251647, 268435455, 536870911, 1073741823]
theorem spec_DayFits.tab1 : rtab .any (opsOf Tryz.f35 1) = spec_DayFits.T1 := by kernel_rfl
theorem spec_DayFits.bits1 : waitsOk spec_DayFits.T1.2 spec_DayFits.B1 = true := by kernel_rfl
set_option maxHeartbeats 8000000 in
set_option maxRecDepth 100000 in
theorem spec_DayFits.calls (k : Nat) (A0_0 : Option Addr) (c0_0 : Nat) (l0_0 : List (List (S38))) (a0_1 : Bool) (a1_0 : Int) (a1_1 : Int) (a1_2 : Int) (a1_3 : Int) (a1_4 : Int) (a1_5 : Int) (r : Bool) (w : World) (hr0_0 : Kd.C (Kd.slice 38 k38) w A0_0 l0_0.length l0_0) (hc0_0 : l0_0.length ≤ c0_0) (h : spec_DayFits.f k l0_0 a0_1 a1_0 a1_1 a1_2 a1_3 a1_4 a1_5 = some r) :
  Calls Tryz.prog 35 #[.agg #[.slice A0_0 l0_0.length c0_0, .bool a0_1], .agg #[.int .i64 a1_0, .int .i64 a1_1, .int .i64 a1_2, .int .i64 a1_3, .int .i64 a1_4, .int .i64 a1_5]] w fun e w' => e = .returned (.bool r) ∧ Below w.heap.size w w' := by
 have hu30 := Tryz.underlying30
 have hu43 := Tryz.underlying43
 have HR0_0 := Aside0.mk hr0_0
 have HC0_0 := Aside0.mk hc0_0
 clear hr0_0 hc0_0
 have HB := Aside0.mk (Below.refl w.heap.size w)
 have H : (if 3 < (l0_0.length : Int) then ((spec_Has.f k 3 (rd_L5 l0_0 3) a1_2).bind fun t176 => (if t176 = true then (if 4 < (l0_0.length : Int) then ((spec_Has.f k 4 (rd_L5 l0_0 4) a1_1).bind fun t178 => (if t178 = true then (if 5 < (l0_0.length : Int) then ((spec_Weekday.f k a1_0 a1_1 a1_2).bind fun t180 => ((spec_Has.f k 5 (rd_L5 l0_0 5) t180).bind fun t181 => (some t181))) else (none)) else (some false))) else (none)) else (some false))) else (none)) = some r := h
 clear h
 by_cases c3 : 3 < (l0_0.length : Int)
 ·rw [if_pos c3] at H
  have c3b0 : decide (3 < (l0_0.length : Int)) = true := decide_eq_true c3
  have c3b1 : decide (3 < l0_0.length) = true := decide_eq_true (by omega)
  clear c3
  replace H := Option.bind_eq_some_iff.mp H
  obtain ⟨t176, A40, H⟩ := H
  replace H : (if t176 = true then (if 4 < (l0_0.length : Int) then ((spec_Has.f k 4 (rd_L5 l0_0 4) a1_1).bind fun t178 => (if t178 = true then (if 5 < (l0_0.length : Int) then ((spec_Weekday.f k a1_0 a1_1 a1_2).bind fun t180 => ((spec_Has.f k 5 (rd_L5 l0_0 5) t180).bind fun t181 => (some t181))) else (none)) else (some false))) else (none)) else (some false)) = some r := H
  have A4 := Aside0.mk A40
  clear A40
  by_cases c5 : t176 = true
  ·subst c5
   have H1 : (if 4 < (l0_0.length : Int) then ((spec_Has.f k 4 (rd_L5 l0_0 4) a1_1).bind fun t178 => (if t178 = true then (if 5 < (l0_0.length : Int) then ((spec_Weekday.f k a1_0 a1_1 a1_2).bind fun t180 => ((spec_Has.f k 5 (rd_L5 l0_0 5) t180).bind fun t181 => (some t181))) else (none)) else (some false))) else (none)) = some r := by rw [if_pos rfl] at H; exact H
   clear H
   have H := H1
   clear H1
   by_cases c6 : 4 < (l0_0.length : Int)
   ·rw [if_pos c6] at H
    have c6b0 : decide (4 < (l0_0.length : Int)) = true := decide_eq_true c6
    have c6b1 : decide (4 < l0_0.length) = true := decide_eq_true (by omega)
    clear c6
    replace H := Option.bind_eq_some_iff.mp H
    obtain ⟨t178, A70, H⟩ := H
    replace H : (if t178 = true then (if 5 < (l0_0.length : Int) then ((spec_Weekday.f k a1_0 a1_1 a1_2).bind fun t180 => ((spec_Has.f k 5 (rd_L5 l0_0 5) t180).bind fun t181 => (some t181))) else (none)) else (some false)) = some r := H
    have A7 := Aside0.mk A70
    clear A70
    by_cases c8 : t178 = true
    ·subst c8
     have H1 : (if 5 < (l0_0.length : Int) then ((spec_Weekday.f k a1_0 a1_1 a1_2).bind fun t180 => ((spec_Has.f k 5 (rd_L5 l0_0 5) t180).bind fun t181 => (some t181))) else (none)) = some r := by rw [if_pos rfl] at H; exact H
     clear H
     have H := H1
     clear H1
     by_cases c9 : 5 < (l0_0.length : Int)
     ·rw [if_pos c9] at H
      have c9b0 : decide (5 < (l0_0.length : Int)) = true := decide_eq_true c9
      have c9b1 : decide (5 < l0_0.length) = true := decide_eq_true (by omega)
      clear c9
      replace H := Option.bind_eq_some_iff.mp H
      obtain ⟨t180, A100, H⟩ := H
      replace H : ((spec_Has.f k 5 (rd_L5 l0_0 5) t180).bind fun t181 => (some t181)) = some r := H
      have A10 := Aside0.mk A100
      clear A100
      replace H := Option.bind_eq_some_iff.mp H
      obtain ⟨t181, A110, H⟩ := H
      replace H : (some t181) = some r := H
      have A11 := Aside0.mk A110
      clear A110
      obtain rfl := Option.some.inj H
      go_enter Tryz.func35, Tryz.ntmps35
      try go_wp2_with (first | ((with_reducible refine gate_dst (N := 2) rfl ?_); refine box_event ?hg (N := 2) ?hd (cs := #[.slice A0_0 l0_0.length c0_0, .bool a0_1]) (t := 30) ?hr ?_; (case hd => rfl); (case hg => rfl); (case hr => first | (go_simp; done) | (go_simp; rfl)); intro gb173 hg w12 hbox hb; have n0_ := Aside0.mk (below_step (by repeat (first | (with_reducible first | exact HB.out | apply below_alloc | apply pw_below_drewN | apply below_drew1) | exact HB.out)) hb); have n1_ := Aside0.mk (hbox); have n2_ := Aside0.mk ((by rw [hg]; exact (below_size (by repeat (first | (with_reducible first | exact HB.out | apply below_alloc | apply pw_below_drewN | apply below_drew1) | exact HB.out))) : w.heap.size ≤ gb173)); have n3_ := Aside0.mk ((by rw [hg]; exact (below_size (by repeat (first | (with_reducible first | exact HB.out | apply below_alloc | apply pw_below_drewN | apply below_drew1) | exact HB.out))) : w.heap.size ≤ gb173)); clear HB; have HB := n0_; have BK173 := n1_; have GW173 := n2_; have GE173 := n3_; clear n0_ n1_ n2_ n3_; clear hb hbox hg) | ((with_reducible refine gate_dst (N := 3) rfl ?_); refine box_event ?hg (N := 3) ?hd (cs := #[.int .i64 a1_0, .int .i64 a1_1, .int .i64 a1_2, .int .i64 a1_3, .int .i64 a1_4, .int .i64 a1_5]) (t := 43) ?hr ?_; (case hd => rfl); (case hg => rfl); (case hr => first | (go_simp; done) | (go_simp; rfl)); intro gb174 hg w13 hbox hb; have n0_ := Aside0.mk (blk_below (g := gb173) (o := .cells #[.slice A0_0 l0_0.length c0_0, .bool a0_1] 30 (0, 0)) (by (with_reducible repeat (first | refine blk_drewN ?_ _ | refine blk_drew ?_ | refine blk_alloc ?_ _)); exact BK173.out) hb); have n1_ := Aside0.mk (below_step (by repeat (first | (with_reducible first | exact HB.out | apply below_alloc | apply pw_below_drewN | apply below_drew1 | refine below_set ?_ GE173.out) | exact HB.out)) hb); have n2_ := Aside0.mk (hbox); have n3_ := Aside0.mk ((by rw [hg]; exact (below_size (by repeat (first | (with_reducible first | exact HB.out | apply below_alloc | apply pw_below_drewN | apply below_drew1 | refine below_set ?_ GE173.out) | exact HB.out))) : w.heap.size ≤ gb174)); have n4_ := Aside0.mk ((by rw [hg]; exact (below_size (by repeat (first | (with_reducible first | exact HB.out | apply below_alloc | apply pw_below_drewN | apply below_drew1 | refine below_set ?_ GE173.out) | exact HB.out))) : w.heap.size ≤ gb174)); have n5_ := Aside0.mk ((by rw [hg]; exact Nat.ne_of_lt (blk_lt (g := gb173) (o := .cells #[.slice A0_0 l0_0.length c0_0, .bool a0_1] 30 (0, 0)) (by (with_reducible repeat (first | refine blk_drewN ?_ _ | refine blk_drew ?_ | refine blk_alloc ?_ _)); exact BK173.out)) : gb173 ≠ gb174)); have n6_ := Aside0.mk ((by rw [hg]; exact Nat.ne_of_gt (blk_lt (g := gb173) (o := .cells #[.slice A0_0 l0_0.length c0_0, .bool a0_1] 30 (0, 0)) (by (with_reducible repeat (first | refine blk_drewN ?_ _ | refine blk_drew ?_ | refine blk_alloc ?_ _)); exact BK173.out)) : gb174 ≠ gb173)); clear BK173; clear HB; have BK173 := n0_; have HB := n1_; have BK174 := n2_; have GW174 := n3_; have GE174 := n4_; have NB173_174 := n5_; have NB174_173 := n6_; clear n0_ n1_ n2_ n3_ n4_ n5_ n6_; clear hb hbox hg))
      have n0_ := Aside0.mk (blk_drew BK173.out)
      have n1_ := Aside0.mk (blk_drew BK174.out)
      have n2_ := Aside0.mk (below_drew1 HB.out)
      clear BK173
      clear BK174
      clear HB
      have BK173 := n0_
      have BK174 := n1_
      have HB := n2_
      clear n0_ n1_ n2_
      have p175 : 0 ≤ (3 : Int) := (by omega)
      have q175 : 3 < (l0_0.length : Int) := of_decide_eq_true (by first | (with_reducible assumption) | assumption)
      obtain ⟨ad175, A175_0, c175_0, e175, hx175_0, hl175_0, hi175_0⟩ := at_L5 HR0_0.out 3 p175 q175
      have hw175_0 := hx175_0
      (try rw [show ((3 : Int)).toNat = 3 from rfl] at hw175_0)
      (try rw [show 3 * 1 = 3 from rfl] at hw175_0)
      (try simp only [Nat.reduceMul, Nat.reduceEqDiff, Go.Addr.add, ↓reduceIte] at hw175_0)
      cases e175
      (try simp only [show (3 : Int).toNat = 3 from rfl, Nat.reduceMul, Nat.reduceEqDiff, Go.Addr.add, ↓reduceIte] at hx175_0)
      have qi175 : (3 < l0_0.length) = True := eq_true (by omega)
      (try rw [show ((3 : Int)).toNat = 3 from rfl] at hx175_0)
      replace hx175_0 := (HB.out.cell (World.block_lt_of_cell? w _ hx175_0)).trans hx175_0
      have HR175_0 := Aside0.mk hi175_0
      have HC175_0 := Aside0.mk hl175_0
      clear hi175_0 hl175_0
      replace p175 := eq_true p175
      replace q175 := eq_true q175
      have p177 : 0 ≤ (4 : Int) := (by omega)
      have q177 : 4 < (l0_0.length : Int) := of_decide_eq_true (by first | (with_reducible assumption) | assumption)
      obtain ⟨ad177, A177_0, c177_0, e177, hx177_0, hl177_0, hi177_0⟩ := at_L5 HR0_0.out 4 p177 q177
      have hw177_0 := hx177_0
      (try rw [show ((4 : Int)).toNat = 4 from rfl] at hw177_0)
      (try rw [show 4 * 1 = 4 from rfl] at hw177_0)
      (try simp only [Nat.reduceMul, Nat.reduceEqDiff, Go.Addr.add, ↓reduceIte] at hw177_0)
      obtain rfl : ad175 = ad177 := (by injection e177)
      (try simp only [show (4 : Int).toNat = 4 from rfl, Nat.reduceMul, Nat.reduceEqDiff, Go.Addr.add, ↓reduceIte] at hx177_0)
      have qi177 : (4 < l0_0.length) = True := eq_true (by omega)
      (try rw [show ((4 : Int)).toNat = 4 from rfl] at hx177_0)
      replace hx177_0 := (HB.out.cell (World.block_lt_of_cell? w _ hx177_0)).trans hx177_0
      have HR177_0 := Aside0.mk hi177_0
      have HC177_0 := Aside0.mk hl177_0
      clear hi177_0 hl177_0
      replace p177 := eq_true p177
      replace q177 := eq_true q177
      have p179 : 0 ≤ (5 : Int) := (by omega)
      have q179 : 5 < (l0_0.length : Int) := of_decide_eq_true (by first | (with_reducible assumption) | assumption)
      obtain ⟨ad179, A179_0, c179_0, e179, hx179_0, hl179_0, hi179_0⟩ := at_L5 HR0_0.out 5 p179 q179
      have hw179_0 := hx179_0
      (try rw [show ((5 : Int)).toNat = 5 from rfl] at hw179_0)
      (try rw [show 5 * 1 = 5 from rfl] at hw179_0)
      (try simp only [Nat.reduceMul, Nat.reduceEqDiff, Go.Addr.add, ↓reduceIte] at hw179_0)
      obtain rfl : ad175 = ad179 := (by injection e179)
      (try simp only [show (5 : Int).toNat = 5 from rfl, Nat.reduceMul, Nat.reduceEqDiff, Go.Addr.add, ↓reduceIte] at hx179_0)
      have qi179 : (5 < l0_0.length) = True := eq_true (by omega)
      (try rw [show ((5 : Int)).toNat = 5 from rfl] at hx179_0)
      replace hx179_0 := (HB.out.cell (World.block_lt_of_cell? w _ hx179_0)).trans hx179_0
      have HR179_0 := Aside0.mk hi179_0
      have HC179_0 := Aside0.mk hl179_0
      clear hi179_0 hl179_0
      replace p179 := eq_true p179
      replace q179 := eq_true q179
      refine start_ (n := 31) (S := fun w' => w'.cell? ⟨gb173, 0, none⟩ = some (.slice (some ad175) l0_0.length c0_0) ∧ w'.cell? ⟨gb173, 1, none⟩ = some (.bool a0_1) ∧ w'.cell? ⟨gb174, 0, none⟩ = some (.int .i64 a1_0) ∧ w'.cell? ⟨gb174, 1, none⟩ = some (.int .i64 a1_1) ∧ w'.cell? ⟨gb174, 2, none⟩ = some (.int .i64 a1_2) ∧ w'.cell? ⟨gb174, 3, none⟩ = some (.int .i64 a1_3) ∧ w'.cell? ⟨gb174, 4, none⟩ = some (.int .i64 a1_4) ∧ w'.cell? ⟨gb174, 5, none⟩ = some (.int .i64 a1_5) ∧ w'.cell? ⟨ad175.block, ad175.off + 3, none⟩ = some (.slice A175_0 (rd_L5 l0_0 3).length c175_0) ∧ w'.cell? ⟨ad175.block, ad175.off + 4, none⟩ = some (.slice A177_0 (rd_L5 l0_0 4).length c177_0) ∧ w'.cell? ⟨ad175.block, ad175.off + 5, none⟩ = some (.slice A179_0 (rd_L5 l0_0 5).length c179_0)) (ds := []) (Ya 31 0) (by kernel_rfl) rfl rfl ⟨(blk_cell BK173.out 0).trans rfl, (blk_cell BK173.out 1).trans rfl, (blk_cell BK174.out 0).trans rfl, (blk_cell BK174.out 1).trans rfl, (blk_cell BK174.out 2).trans rfl, (blk_cell BK174.out 3).trans rfl, (blk_cell BK174.out 4).trans rfl, (blk_cell BK174.out 5).trans rfl, ((HB.out.cell (World.block_lt_of_cell? w _ hw175_0)).trans hw175_0), ((HB.out.cell (World.block_lt_of_cell? w _ hw177_0)).trans hw177_0), ((HB.out.cell (World.block_lt_of_cell? w _ hw179_0)).trans hw179_0)⟩ (fun hHeld => ?_); refine with_tabW spec_DayFits.tab1 spec_DayFits.bits1 (fun HT_ HW_ => ?_)
      generalize w13.drew = w14 at BK173 BK174 HB HR175_0 HR177_0 HR179_0 hx175_0 hx177_0 hx179_0 hHeld ⊢
      refine pure_ (i := 0) (N := some 5) (v := ?_) (a' := ?_) (Ya 31 1) rfl rfl (any_of HT_.out (by kernel_rfl)) (fun _ _ _ h => h) (Or.inl ⟨by rfl, ?_⟩) ?_ ?_
      rotate_left
      ·intro w'
       go_simp
       with_reducible rfl
      rotate_left
      ·simp only [Act.put, List.setIfInBounds_toArray, List.set_cons_zero, List.set_cons_succ, i64_w, i32_w]
       rfl
      refine pure_ (i := 4) (N := some 9) (v := ?_) (a' := ?_) (Ya 31 17) rfl rfl (any_of HT_.out (by kernel_rfl)) (fun _ _ _ h => h) (Or.inl ⟨by rfl, ?_⟩) ?_ ?_
      rotate_left
      ·intro w'
       go_simp
       with_reducible rfl
      rotate_left
      ·simp only [Act.put, List.setIfInBounds_toArray, List.set_cons_zero, List.set_cons_succ, i64_w, i32_w]
       rfl
      refine take_ (i := 1) (N := some 6) (v := ?_) (a' := ?_) (Ya 31 19) rfl rfl (take_ofW HT_.out HW_.out (by kernel_rfl)) (fun _ _ _ h => h) (Or.inl ⟨by rfl, ?_⟩) hHeld ?_ ?_
      rotate_left
      ·rintro w' ⟨s0, s1, s2, s3, s4, s5, s6, s7, s8, s9, s10⟩
       go_simp
       with_reducible rfl
      rotate_left
      ·simp only [Act.put, List.setIfInBounds_toArray, List.set_cons_zero, List.set_cons_succ, i64_w, i32_w]
       rfl
      refine pure_ (i := 2) (N := some 7) (v := ?_) (a' := ?_) (Ya 31 23) rfl rfl (any_of HT_.out (by kernel_rfl)) (fun _ _ _ h => h) (Or.inl ⟨by rfl, ?_⟩) ?_ ?_
      rotate_left
      ·intro w'
       go_simp
       with_reducible rfl
      rotate_left
      ·simp only [Act.put, List.setIfInBounds_toArray, List.set_cons_zero, List.set_cons_succ, i64_w, i32_w]
       rfl
      refine take_ (i := 3) (N := some 8) (v := ?_) (a' := ?_) (Ya 31 31) rfl rfl (take_ofW HT_.out HW_.out (by kernel_rfl)) (fun _ _ _ h => h) (Or.inl ⟨by rfl, ?_⟩) hHeld ?_ ?_
      rotate_left
      ·rintro w' ⟨s0, s1, s2, s3, s4, s5, s6, s7, s8, s9, s10⟩
       go_simp
       with_reducible rfl
      rotate_left
      ·simp only [Act.put, List.setIfInBounds_toArray, List.set_cons_zero, List.set_cons_succ, i64_w, i32_w]
       rfl
      refine take_ (i := 5) (N := some 10) (v := ?_) (a' := ?_) (Ya 31 63) rfl rfl (take_ofW HT_.out HW_.out (by kernel_rfl)) (fun _ _ _ h => h) (Or.inl ⟨by rfl, ?_⟩) hHeld ?_ ?_
      rotate_left
      ·rintro w' ⟨s0, s1, s2, s3, s4, s5, s6, s7, s8, s9, s10⟩
       go_simp
       with_reducible rfl
      rotate_left
      ·simp only [Act.put, List.setIfInBounds_toArray, List.set_cons_zero, List.set_cons_succ, i64_w, i32_w]
       rfl
      refine one_ (i := 6) (N := some 11) (Ya 31 127) rfl rfl (one_of HT_.out (by kernel_rfl)) (by decide) (fun K hK => ?_)
      refine goes_ Tryz.func36 (by kernel_rfl) rfl #[.int .i64 3, .slice A175_0 (rd_L5 l0_0 3).length c175_0, .int .i64 a1_2] (by rfl) rfl rfl (by (try simp only [List.map_toArray, List.map_cons, List.map_nil]); first | done | rfl | (simp only [List.length_drop, List.length_take]; rfl)) ?_
      with_reducible refine (spec_Has.calls k 3 _ _ (rd_L5 l0_0 3) a1_2 true _ ?side1 ?side2 A4.out).mono ?_
      (case side1 => repeat (first | exact (Kd.C_below HR175_0.out HB.out) | (with_reducible refine Kd.C_alloc ?_ _) | (with_reducible refine Kd.C_drewN ?_ _) | (with_reducible refine Kd.C_drew ?_)))
      (case side2 => exact HC175_0.out)
      rintro e w15 ⟨rfl, hb⟩
      refine ⟨_, rfl, ?_⟩
      have n0_ := Aside0.mk (blk_below (g := gb173) (o := .cells #[.slice (some ad175) l0_0.length c0_0, .bool a0_1] 30 (0, 0)) (by (with_reducible repeat (first | refine blk_drewN ?_ _ | refine blk_drew ?_ | refine blk_alloc ?_ _)); exact BK173.out) hb)
      have n1_ := Aside0.mk (blk_below (g := gb174) (o := .cells #[.int .i64 a1_0, .int .i64 a1_1, .int .i64 a1_2, .int .i64 a1_3, .int .i64 a1_4, .int .i64 a1_5] 43 (0, 0)) (by (with_reducible repeat (first | refine blk_drewN ?_ _ | refine blk_drew ?_ | refine blk_alloc ?_ _)); exact BK174.out) hb)
      have n2_ := Aside0.mk (below_step (by repeat (first | (with_reducible first | exact HB.out | apply below_alloc | apply pw_below_drewN | apply below_drew1 | refine below_set ?_ GE173.out | refine below_set ?_ GE174.out) | exact HB.out)) hb)
      clear BK173
      clear BK174
      clear HB
      have BK173 := n0_
      have BK174 := n1_
      have HB := n2_
      clear n0_ n1_ n2_
      (try clear hb)
      (try clear hb2)
      (try clear hk)
      (try clear hi)
      refine hK.out _ _ ⟨(blk_cell BK173.out 0).trans rfl, (blk_cell BK173.out 1).trans rfl, (blk_cell BK174.out 0).trans rfl, (blk_cell BK174.out 1).trans rfl, (blk_cell BK174.out 2).trans rfl, (blk_cell BK174.out 3).trans rfl, (blk_cell BK174.out 4).trans rfl, (blk_cell BK174.out 5).trans rfl, ((HB.out.cell (World.block_lt_of_cell? w _ hw175_0)).trans hw175_0), ((HB.out.cell (World.block_lt_of_cell? w _ hw177_0)).trans hw177_0), ((HB.out.cell (World.block_lt_of_cell? w _ hw179_0)).trans hw179_0)⟩ (fun hHeld => ?_)
      clear hK K
      refine norm_ (a' := ?_) ?_ ?_
      rotate_left
      ·show Act.put _ (some 11) _ = _
       simp only [Act.put, List.setIfInBounds_toArray, List.set_cons_zero, List.set_cons_succ, i64_w, i32_w]
       rfl
      refine pure_ (i := 7) (N := some 12) (v := ?_) (a' := ?_) (Ya 31 255) rfl rfl (any_of HT_.out (by kernel_rfl)) (fun _ _ _ h => h) (Or.inl ⟨by rfl, ?_⟩) ?_ ?_
      rotate_left
      ·intro w'
       go_simp
       with_reducible rfl
      rotate_left
      ·simp only [Act.put, List.setIfInBounds_toArray, List.set_cons_zero, List.set_cons_succ, i64_w, i32_w]
       rfl
      refine pure_ (i := 8) (N := some 13) (v := ?_) (a' := ?_) (Ya 31 511) rfl rfl (any_of HT_.out (by kernel_rfl)) (fun _ _ _ h => h) (Or.inl ⟨by rfl, ?_⟩) ?_ ?_
      rotate_left
      ·intro w'
       go_simp
       with_reducible rfl
      rotate_left
      ·simp only [Act.put, List.setIfInBounds_toArray, List.set_cons_zero, List.set_cons_succ, i64_w, i32_w]
       rfl
      refine pure_ (i := 12) (N := some 17) (v := ?_) (a' := ?_) (Ya 31 4607) rfl rfl (any_of HT_.out (by kernel_rfl)) (fun _ _ _ h => h) (Or.inl ⟨by rfl, ?_⟩) ?_ ?_
      rotate_left
      ·intro w'
       go_simp
       with_reducible rfl
      rotate_left
      ·simp only [Act.put, List.setIfInBounds_toArray, List.set_cons_zero, List.set_cons_succ, i64_w, i32_w]
       rfl
      refine take_ (i := 9) (N := some 14) (v := ?_) (a' := ?_) (Ya 31 5119) rfl rfl (take_ofW HT_.out HW_.out (by kernel_rfl)) (fun _ _ _ h => h) (Or.inl ⟨by rfl, ?_⟩) hHeld ?_ ?_
      rotate_left
      ·rintro w' ⟨s0, s1, s2, s3, s4, s5, s6, s7, s8, s9, s10⟩
       go_simp
       with_reducible rfl
      rotate_left
      ·simp only [Act.put, List.setIfInBounds_toArray, List.set_cons_zero, List.set_cons_succ, i64_w, i32_w]
       rfl
      refine pure_ (i := 10) (N := some 15) (v := ?_) (a' := ?_) (Ya 31 6143) rfl rfl (any_of HT_.out (by kernel_rfl)) (fun _ _ _ h => h) (Or.inl ⟨by rfl, ?_⟩) ?_ ?_
      rotate_left
      ·intro w'
       go_simp
       with_reducible rfl
      rotate_left
      ·simp only [Act.put, List.setIfInBounds_toArray, List.set_cons_zero, List.set_cons_succ, i64_w, i32_w]
       rfl
      refine take_ (i := 11) (N := some 16) (v := ?_) (a' := ?_) (Ya 31 8191) rfl rfl (take_ofW HT_.out HW_.out (by kernel_rfl)) (fun _ _ _ h => h) (Or.inl ⟨by rfl, ?_⟩) hHeld ?_ ?_
      rotate_left
      ·rintro w' ⟨s0, s1, s2, s3, s4, s5, s6, s7, s8, s9, s10⟩
       go_simp
       with_reducible rfl
      rotate_left
      ·simp only [Act.put, List.setIfInBounds_toArray, List.set_cons_zero, List.set_cons_succ, i64_w, i32_w]
       rfl
      refine take_ (i := 13) (N := some 18) (v := ?_) (a' := ?_) (Ya 31 16383) rfl rfl (take_ofW HT_.out HW_.out (by kernel_rfl)) (fun _ _ _ h => h) (Or.inl ⟨by rfl, ?_⟩) hHeld ?_ ?_
      rotate_left
      ·rintro w' ⟨s0, s1, s2, s3, s4, s5, s6, s7, s8, s9, s10⟩
       go_simp
       with_reducible rfl
      rotate_left
      ·simp only [Act.put, List.setIfInBounds_toArray, List.set_cons_zero, List.set_cons_succ, i64_w, i32_w]
       rfl
      refine one_ (i := 14) (N := some 19) (Ya 31 32767) rfl rfl (one_of HT_.out (by kernel_rfl)) (by decide) (fun K hK => ?_)
      refine goes_ Tryz.func36 (by kernel_rfl) rfl #[.int .i64 4, .slice A177_0 (rd_L5 l0_0 4).length c177_0, .int .i64 a1_1] (by rfl) rfl rfl (by (try simp only [List.map_toArray, List.map_cons, List.map_nil]); first | done | rfl | (simp only [List.length_drop, List.length_take]; rfl)) ?_
      with_reducible refine (spec_Has.calls k 4 _ _ (rd_L5 l0_0 4) a1_1 true _ ?side1 ?side2 A7.out).mono ?_
      (case side1 => repeat (first | exact (Kd.C_below HR177_0.out HB.out) | (with_reducible refine Kd.C_alloc ?_ _) | (with_reducible refine Kd.C_drewN ?_ _) | (with_reducible refine Kd.C_drew ?_)))
      (case side2 => exact HC177_0.out)
      rintro e w16 ⟨rfl, hb⟩
      refine ⟨_, rfl, ?_⟩
      have n0_ := Aside0.mk (blk_below (g := gb173) (o := .cells #[.slice (some ad175) l0_0.length c0_0, .bool a0_1] 30 (0, 0)) (by (with_reducible repeat (first | refine blk_drewN ?_ _ | refine blk_drew ?_ | refine blk_alloc ?_ _)); exact BK173.out) hb)
      have n1_ := Aside0.mk (blk_below (g := gb174) (o := .cells #[.int .i64 a1_0, .int .i64 a1_1, .int .i64 a1_2, .int .i64 a1_3, .int .i64 a1_4, .int .i64 a1_5] 43 (0, 0)) (by (with_reducible repeat (first | refine blk_drewN ?_ _ | refine blk_drew ?_ | refine blk_alloc ?_ _)); exact BK174.out) hb)
      have n2_ := Aside0.mk (below_step (by repeat (first | (with_reducible first | exact HB.out | apply below_alloc | apply pw_below_drewN | apply below_drew1 | refine below_set ?_ GE173.out | refine below_set ?_ GE174.out) | exact HB.out)) hb)
      clear BK173
      clear BK174
      clear HB
      have BK173 := n0_
      have BK174 := n1_
      have HB := n2_
      clear n0_ n1_ n2_
      (try clear hb)
      (try clear hb2)
      (try clear hk)
      (try clear hi)
      refine hK.out _ _ ⟨(blk_cell BK173.out 0).trans rfl, (blk_cell BK173.out 1).trans rfl, (blk_cell BK174.out 0).trans rfl, (blk_cell BK174.out 1).trans rfl, (blk_cell BK174.out 2).trans rfl, (blk_cell BK174.out 3).trans rfl, (blk_cell BK174.out 4).trans rfl, (blk_cell BK174.out 5).trans rfl, ((HB.out.cell (World.block_lt_of_cell? w _ hw175_0)).trans hw175_0), ((HB.out.cell (World.block_lt_of_cell? w _ hw177_0)).trans hw177_0), ((HB.out.cell (World.block_lt_of_cell? w _ hw179_0)).trans hw179_0)⟩ (fun hHeld => ?_)
      clear hK K
      refine norm_ (a' := ?_) ?_ ?_
      rotate_left
      ·show Act.put _ (some 19) _ = _
       simp only [Act.put, List.setIfInBounds_toArray, List.set_cons_zero, List.set_cons_succ, i64_w, i32_w]
       rfl
      refine pure_ (i := 15) (N := some 20) (v := ?_) (a' := ?_) (Ya 31 65535) rfl rfl (any_of HT_.out (by kernel_rfl)) (fun _ _ _ h => h) (Or.inl ⟨by rfl, ?_⟩) ?_ ?_
      rotate_left
      ·intro w'
       go_simp
       with_reducible rfl
      rotate_left
      ·simp only [Act.put, List.setIfInBounds_toArray, List.set_cons_zero, List.set_cons_succ, i64_w, i32_w]
       rfl
      refine pure_ (i := 16) (N := some 21) (v := ?_) (a' := ?_) (Ya 31 131071) rfl rfl (any_of HT_.out (by kernel_rfl)) (fun _ _ _ h => h) (Or.inl ⟨by rfl, ?_⟩) ?_ ?_
      rotate_left
      ·intro w'
       go_simp
       with_reducible rfl
      rotate_left
      ·simp only [Act.put, List.setIfInBounds_toArray, List.set_cons_zero, List.set_cons_succ, i64_w, i32_w]
       rfl
      refine pure_ (i := 17) (N := some 22) (v := ?_) (a' := ?_) (Ya 31 262143) rfl rfl (any_of HT_.out (by kernel_rfl)) (fun _ _ _ h => h) (Or.inl ⟨by rfl, ?_⟩) ?_ ?_
      rotate_left
      ·intro w'
       go_simp
       with_reducible rfl
      rotate_left
      ·simp only [Act.put, List.setIfInBounds_toArray, List.set_cons_zero, List.set_cons_succ, i64_w, i32_w]
       rfl
      refine pure_ (i := 21) (N := some 26) (v := ?_) (a' := ?_) (Ya 31 2359295) rfl rfl (any_of HT_.out (by kernel_rfl)) (fun _ _ _ h => h) (Or.inl ⟨by rfl, ?_⟩) ?_ ?_
      rotate_left
      ·intro w'
       go_simp
       with_reducible rfl
      rotate_left
      ·simp only [Act.put, List.setIfInBounds_toArray, List.set_cons_zero, List.set_cons_succ, i64_w, i32_w]
       rfl
      refine pure_ (i := 23) (N := some 28) (v := ?_) (a' := ?_) (Ya 31 10747903) rfl rfl (any_of HT_.out (by kernel_rfl)) (fun _ _ _ h => h) (Or.inl ⟨by rfl, ?_⟩) ?_ ?_
      rotate_left
      ·intro w'
       go_simp
       with_reducible rfl
      rotate_left
      ·simp only [Act.put, List.setIfInBounds_toArray, List.set_cons_zero, List.set_cons_succ, i64_w, i32_w]
       rfl
      refine pure_ (i := 25) (N := some 30) (v := ?_) (a' := ?_) (Ya 31 44302335) rfl rfl (any_of HT_.out (by kernel_rfl)) (fun _ _ _ h => h) (Or.inl ⟨by rfl, ?_⟩) ?_ ?_
      rotate_left
      ·intro w'
       go_simp
       with_reducible rfl
      rotate_left
      ·simp only [Act.put, List.setIfInBounds_toArray, List.set_cons_zero, List.set_cons_succ, i64_w, i32_w]
       rfl
      refine take_ (i := 18) (N := some 23) (v := ?_) (a' := ?_) (Ya 31 44564479) rfl rfl (take_ofW HT_.out HW_.out (by kernel_rfl)) (fun _ _ _ h => h) (Or.inl ⟨by rfl, ?_⟩) hHeld ?_ ?_
      rotate_left
      ·rintro w' ⟨s0, s1, s2, s3, s4, s5, s6, s7, s8, s9, s10⟩
       go_simp
       with_reducible rfl
      rotate_left
      ·simp only [Act.put, List.setIfInBounds_toArray, List.set_cons_zero, List.set_cons_succ, i64_w, i32_w]
       rfl
      refine pure_ (i := 19) (N := some 24) (v := ?_) (a' := ?_) (Ya 31 45088767) rfl rfl (any_of HT_.out (by kernel_rfl)) (fun _ _ _ h => h) (Or.inl ⟨by rfl, ?_⟩) ?_ ?_
      rotate_left
      ·intro w'
       go_simp
       with_reducible rfl
      rotate_left
      ·simp only [Act.put, List.setIfInBounds_toArray, List.set_cons_zero, List.set_cons_succ, i64_w, i32_w]
       rfl
      refine take_ (i := 20) (N := some 25) (v := ?_) (a' := ?_) (Ya 31 46137343) rfl rfl (take_ofW HT_.out HW_.out (by kernel_rfl)) (fun _ _ _ h => h) (Or.inl ⟨by rfl, ?_⟩) hHeld ?_ ?_
      rotate_left
      ·rintro w' ⟨s0, s1, s2, s3, s4, s5, s6, s7, s8, s9, s10⟩
       go_simp
       with_reducible rfl
      rotate_left
      ·simp only [Act.put, List.setIfInBounds_toArray, List.set_cons_zero, List.set_cons_succ, i64_w, i32_w]
       rfl
      refine take_ (i := 22) (N := some 27) (v := ?_) (a' := ?_) (Ya 31 50331647) rfl rfl (take_ofW HT_.out HW_.out (by kernel_rfl)) (fun _ _ _ h => h) (Or.inl ⟨by rfl, ?_⟩) hHeld ?_ ?_
      rotate_left
      ·rintro w' ⟨s0, s1, s2, s3, s4, s5, s6, s7, s8, s9, s10⟩
       go_simp
       with_reducible rfl
      rotate_left
      ·simp only [Act.put, List.setIfInBounds_toArray, List.set_cons_zero, List.set_cons_succ, i64_w, i32_w]
       rfl
      refine take_ (i := 24) (N := some 29) (v := ?_) (a' := ?_) (Ya 31 67108863) rfl rfl (take_ofW HT_.out HW_.out (by kernel_rfl)) (fun _ _ _ h => h) (Or.inl ⟨by rfl, ?_⟩) hHeld ?_ ?_
      rotate_left
      ·rintro w' ⟨s0, s1, s2, s3, s4, s5, s6, s7, s8, s9, s10⟩
       go_simp
       with_reducible rfl
      rotate_left
      ·simp only [Act.put, List.setIfInBounds_toArray, List.set_cons_zero, List.set_cons_succ, i64_w, i32_w]
       rfl
      refine take_ (i := 26) (N := some 31) (v := ?_) (a' := ?_) (Ya 31 134217727) rfl rfl (take_ofW HT_.out HW_.out (by kernel_rfl)) (fun _ _ _ h => h) (Or.inl ⟨by rfl, ?_⟩) hHeld ?_ ?_
      rotate_left
      ·rintro w' ⟨s0, s1, s2, s3, s4, s5, s6, s7, s8, s9, s10⟩
       go_simp
       with_reducible rfl
      rotate_left
      ·simp only [Act.put, List.setIfInBounds_toArray, List.set_cons_zero, List.set_cons_succ, i64_w, i32_w]
       rfl
      refine one_ (i := 27) (N := some 32) (Ya 31 268435455) rfl rfl (one_of HT_.out (by kernel_rfl)) (by decide) (fun K hK => ?_)
      refine goes_ Tryz.func38 (by kernel_rfl) rfl #[.int .i64 a1_0, .int .i64 a1_1, .int .i64 a1_2] (by rfl) rfl rfl (by (try simp only [List.map_toArray, List.map_cons, List.map_nil]); first | done | rfl | (simp only [List.length_drop, List.length_take]; rfl)) ?_
      with_reducible refine (spec_Weekday.calls k a1_0 a1_1 a1_2 t180 _ A10.out).mono ?_
      rintro e w' ⟨rfl, ⟨nd, rfl⟩⟩
      refine ⟨_, rfl, ?_⟩
      refine hK.out _ _ ⟨(blk_cell BK173.out 0).trans rfl, (blk_cell BK173.out 1).trans rfl, (blk_cell BK174.out 0).trans rfl, (blk_cell BK174.out 1).trans rfl, (blk_cell BK174.out 2).trans rfl, (blk_cell BK174.out 3).trans rfl, (blk_cell BK174.out 4).trans rfl, (blk_cell BK174.out 5).trans rfl, ((HB.out.cell (World.block_lt_of_cell? w _ hw175_0)).trans hw175_0), ((HB.out.cell (World.block_lt_of_cell? w _ hw177_0)).trans hw177_0), ((HB.out.cell (World.block_lt_of_cell? w _ hw179_0)).trans hw179_0)⟩ (fun hHeld => ?_)
      clear hK K
      refine norm_ (a' := ?_) ?_ ?_
      rotate_left
      ·show Act.put _ (some 32) _ = _
       simp only [Act.put, List.setIfInBounds_toArray, List.set_cons_zero, List.set_cons_succ, i64_w, i32_w]
       rfl
      refine one_ (i := 28) (N := some 33) (Ya 31 536870911) rfl rfl (one_of HT_.out (by kernel_rfl)) (by decide) (fun K hK => ?_)
      refine goes_ Tryz.func36 (by kernel_rfl) rfl #[.int .i64 5, .slice A179_0 (rd_L5 l0_0 5).length c179_0, .int .i64 t180] (by rfl) rfl rfl (by (try simp only [List.map_toArray, List.map_cons, List.map_nil]); first | done | rfl | (simp only [List.length_drop, List.length_take]; rfl)) ?_
      with_reducible refine (spec_Has.calls k 5 _ _ (rd_L5 l0_0 5) t180 t181 _ ?side1 ?side2 A11.out).mono ?_
      (case side1 => repeat (first | exact (Kd.C_below HR179_0.out (by repeat (first | (with_reducible first | exact HB.out | apply below_alloc | apply pw_below_drewN | apply below_drew1 | refine below_set ?_ GE173.out | refine below_set ?_ GE174.out) | exact HB.out))) | (with_reducible refine Kd.C_alloc ?_ _) | (with_reducible refine Kd.C_drewN ?_ _) | (with_reducible refine Kd.C_drew ?_)))
      (case side2 => exact HC179_0.out)
      rintro e w17 ⟨rfl, hb⟩
      refine ⟨_, rfl, ?_⟩
      have n0_ := Aside0.mk (blk_below (g := gb173) (o := .cells #[.slice (some ad175) l0_0.length c0_0, .bool a0_1] 30 (0, 0)) (by (with_reducible repeat (first | refine blk_drewN ?_ _ | refine blk_drew ?_ | refine blk_alloc ?_ _)); exact BK173.out) hb)
      have n1_ := Aside0.mk (blk_below (g := gb174) (o := .cells #[.int .i64 a1_0, .int .i64 a1_1, .int .i64 a1_2, .int .i64 a1_3, .int .i64 a1_4, .int .i64 a1_5] 43 (0, 0)) (by (with_reducible repeat (first | refine blk_drewN ?_ _ | refine blk_drew ?_ | refine blk_alloc ?_ _)); exact BK174.out) hb)
      have n2_ := Aside0.mk (below_step (by repeat (first | (with_reducible first | exact HB.out | apply below_alloc | apply pw_below_drewN | apply below_drew1 | refine below_set ?_ GE173.out | refine below_set ?_ GE174.out) | exact HB.out)) hb)
      clear BK173
      clear BK174
      clear HB
      have BK173 := n0_
      have BK174 := n1_
      have HB := n2_
      clear n0_ n1_ n2_
      (try clear hb)
      (try clear hb2)
      (try clear hk)
      (try clear hi)
      refine hK.out _ _ ⟨(blk_cell BK173.out 0).trans rfl, (blk_cell BK173.out 1).trans rfl, (blk_cell BK174.out 0).trans rfl, (blk_cell BK174.out 1).trans rfl, (blk_cell BK174.out 2).trans rfl, (blk_cell BK174.out 3).trans rfl, (blk_cell BK174.out 4).trans rfl, (blk_cell BK174.out 5).trans rfl, ((HB.out.cell (World.block_lt_of_cell? w _ hw175_0)).trans hw175_0), ((HB.out.cell (World.block_lt_of_cell? w _ hw177_0)).trans hw177_0), ((HB.out.cell (World.block_lt_of_cell? w _ hw179_0)).trans hw179_0)⟩ (fun hHeld => ?_)
      clear hK K
      refine norm_ (a' := ?_) ?_ ?_
      rotate_left
      ·show Act.put _ (some 33) _ = _
       simp only [Act.put, List.setIfInBounds_toArray, List.set_cons_zero, List.set_cons_succ, i64_w, i32_w]
       rfl
      refine pure_ (i := 29) (N := some 34) (v := ?_) (a' := ?_) (Ya 31 1073741823) rfl rfl (any_of HT_.out (by kernel_rfl)) (fun _ _ _ h => h) (Or.inl ⟨by rfl, ?_⟩) ?_ ?_
      rotate_left
      ·intro w'
       go_simp
       with_reducible rfl
      rotate_left
      ·simp only [Act.put, List.setIfInBounds_toArray, List.set_cons_zero, List.set_cons_succ, i64_w, i32_w]
       rfl
      refine pure_ (i := 30) (N := some 4) (v := ?_) (a' := ?_) (Ya 31 2147483647) rfl rfl (any_of HT_.out (by kernel_rfl)) (fun _ _ _ h => h) (Or.inl ⟨by rfl, ?_⟩) ?_ ?_
      rotate_left
      ·intro w'
       go_simp
       with_reducible rfl
      rotate_left
      ·simp only [Act.put, List.setIfInBounds_toArray, List.set_cons_zero, List.set_cons_succ, i64_w, i32_w]
       rfl
      refine done_ (done_of HT_.out (by kernel_rfl)) ?_
      try go_wp2
      go_ret
      exact ⟨by first | rfl | (simp [errW_none, errW_some] <;> rfl) | (simp [*, errW_none, errW_some] <;> rfl), by repeat (first | (with_reducible first | exact HB.out | apply below_alloc | apply pw_below_drewN | apply below_drew1 | refine below_set ?_ GE173.out | refine below_set ?_ GE174.out) | exact HB.out)⟩
     ·rw [if_neg c9] at H
      exact absurd H (by simp)
    ·replace c8 := Bool.eq_false_iff.mpr c8
     subst c8
     have H1 : (some false) = some r := by rw [if_neg (show ¬ (false = true) by decide)] at H; exact H
     clear H
     have H := H1
     clear H1
     obtain rfl := Option.some.inj H
     go_enter Tryz.func35, Tryz.ntmps35
     try go_wp2_with (first | ((with_reducible refine gate_dst (N := 2) rfl ?_); refine box_event ?hg (N := 2) ?hd (cs := #[.slice A0_0 l0_0.length c0_0, .bool a0_1]) (t := 30) ?hr ?_; (case hd => rfl); (case hg => rfl); (case hr => first | (go_simp; done) | (go_simp; rfl)); intro gb173 hg w18 hbox hb; have n0_ := Aside0.mk (below_step (by repeat (first | (with_reducible first | exact HB.out | apply below_alloc | apply pw_below_drewN | apply below_drew1) | exact HB.out)) hb); have n1_ := Aside0.mk (hbox); have n2_ := Aside0.mk ((by rw [hg]; exact (below_size (by repeat (first | (with_reducible first | exact HB.out | apply below_alloc | apply pw_below_drewN | apply below_drew1) | exact HB.out))) : w.heap.size ≤ gb173)); have n3_ := Aside0.mk ((by rw [hg]; exact (below_size (by repeat (first | (with_reducible first | exact HB.out | apply below_alloc | apply pw_below_drewN | apply below_drew1) | exact HB.out))) : w.heap.size ≤ gb173)); clear HB; have HB := n0_; have BK173 := n1_; have GW173 := n2_; have GE173 := n3_; clear n0_ n1_ n2_ n3_; clear hb hbox hg) | ((with_reducible refine gate_dst (N := 3) rfl ?_); refine box_event ?hg (N := 3) ?hd (cs := #[.int .i64 a1_0, .int .i64 a1_1, .int .i64 a1_2, .int .i64 a1_3, .int .i64 a1_4, .int .i64 a1_5]) (t := 43) ?hr ?_; (case hd => rfl); (case hg => rfl); (case hr => first | (go_simp; done) | (go_simp; rfl)); intro gb174 hg w19 hbox hb; have n0_ := Aside0.mk (blk_below (g := gb173) (o := .cells #[.slice A0_0 l0_0.length c0_0, .bool a0_1] 30 (0, 0)) (by (with_reducible repeat (first | refine blk_drewN ?_ _ | refine blk_drew ?_ | refine blk_alloc ?_ _)); exact BK173.out) hb); have n1_ := Aside0.mk (below_step (by repeat (first | (with_reducible first | exact HB.out | apply below_alloc | apply pw_below_drewN | apply below_drew1 | refine below_set ?_ GE173.out) | exact HB.out)) hb); have n2_ := Aside0.mk (hbox); have n3_ := Aside0.mk ((by rw [hg]; exact (below_size (by repeat (first | (with_reducible first | exact HB.out | apply below_alloc | apply pw_below_drewN | apply below_drew1 | refine below_set ?_ GE173.out) | exact HB.out))) : w.heap.size ≤ gb174)); have n4_ := Aside0.mk ((by rw [hg]; exact (below_size (by repeat (first | (with_reducible first | exact HB.out | apply below_alloc | apply pw_below_drewN | apply below_drew1 | refine below_set ?_ GE173.out) | exact HB.out))) : w.heap.size ≤ gb174)); have n5_ := Aside0.mk ((by rw [hg]; exact Nat.ne_of_lt (blk_lt (g := gb173) (o := .cells #[.slice A0_0 l0_0.length c0_0, .bool a0_1] 30 (0, 0)) (by (with_reducible repeat (first | refine blk_drewN ?_ _ | refine blk_drew ?_ | refine blk_alloc ?_ _)); exact BK173.out)) : gb173 ≠ gb174)); have n6_ := Aside0.mk ((by rw [hg]; exact Nat.ne_of_gt (blk_lt (g := gb173) (o := .cells #[.slice A0_0 l0_0.length c0_0, .bool a0_1] 30 (0, 0)) (by (with_reducible repeat (first | refine blk_drewN ?_ _ | refine blk_drew ?_ | refine blk_alloc ?_ _)); exact BK173.out)) : gb174 ≠ gb173)); clear BK173; clear HB; have BK173 := n0_; have HB := n1_; have BK174 := n2_; have GW174 := n3_; have GE174 := n4_; have NB173_174 := n5_; have NB174_173 := n6_; clear n0_ n1_ n2_ n3_ n4_ n5_ n6_; clear hb hbox hg))
     have n0_ := Aside0.mk (blk_drew BK173.out)
     have n1_ := Aside0.mk (blk_drew BK174.out)
     have n2_ := Aside0.mk (below_drew1 HB.out)
     clear BK173
     clear BK174
     clear HB
     have BK173 := n0_
     have BK174 := n1_
     have HB := n2_
     clear n0_ n1_ n2_
     have p175 : 0 ≤ (3 : Int) := (by omega)
     have q175 : 3 < (l0_0.length : Int) := of_decide_eq_true (by first | (with_reducible assumption) | assumption)
     obtain ⟨ad175, A175_0, c175_0, e175, hx175_0, hl175_0, hi175_0⟩ := at_L5 HR0_0.out 3 p175 q175
     have hw175_0 := hx175_0
     (try rw [show ((3 : Int)).toNat = 3 from rfl] at hw175_0)
     (try rw [show 3 * 1 = 3 from rfl] at hw175_0)
     (try simp only [Nat.reduceMul, Nat.reduceEqDiff, Go.Addr.add, ↓reduceIte] at hw175_0)
     cases e175
     (try simp only [show (3 : Int).toNat = 3 from rfl, Nat.reduceMul, Nat.reduceEqDiff, Go.Addr.add, ↓reduceIte] at hx175_0)
     have qi175 : (3 < l0_0.length) = True := eq_true (by omega)
     (try rw [show ((3 : Int)).toNat = 3 from rfl] at hx175_0)
     replace hx175_0 := (HB.out.cell (World.block_lt_of_cell? w _ hx175_0)).trans hx175_0
     have HR175_0 := Aside0.mk hi175_0
     have HC175_0 := Aside0.mk hl175_0
     clear hi175_0 hl175_0
     replace p175 := eq_true p175
     replace q175 := eq_true q175
     have p177 : 0 ≤ (4 : Int) := (by omega)
     have q177 : 4 < (l0_0.length : Int) := of_decide_eq_true (by first | (with_reducible assumption) | assumption)
     obtain ⟨ad177, A177_0, c177_0, e177, hx177_0, hl177_0, hi177_0⟩ := at_L5 HR0_0.out 4 p177 q177
     have hw177_0 := hx177_0
     (try rw [show ((4 : Int)).toNat = 4 from rfl] at hw177_0)
     (try rw [show 4 * 1 = 4 from rfl] at hw177_0)
     (try simp only [Nat.reduceMul, Nat.reduceEqDiff, Go.Addr.add, ↓reduceIte] at hw177_0)
     obtain rfl : ad175 = ad177 := (by injection e177)
     (try simp only [show (4 : Int).toNat = 4 from rfl, Nat.reduceMul, Nat.reduceEqDiff, Go.Addr.add, ↓reduceIte] at hx177_0)
     have qi177 : (4 < l0_0.length) = True := eq_true (by omega)
     (try rw [show ((4 : Int)).toNat = 4 from rfl] at hx177_0)
     replace hx177_0 := (HB.out.cell (World.block_lt_of_cell? w _ hx177_0)).trans hx177_0
     have HR177_0 := Aside0.mk hi177_0
     have HC177_0 := Aside0.mk hl177_0
     clear hi177_0 hl177_0
     replace p177 := eq_true p177
     replace q177 := eq_true q177
     refine start_ (n := 31) (S := fun w' => w'.cell? ⟨gb173, 0, none⟩ = some (.slice (some ad175) l0_0.length c0_0) ∧ w'.cell? ⟨gb173, 1, none⟩ = some (.bool a0_1) ∧ w'.cell? ⟨gb174, 0, none⟩ = some (.int .i64 a1_0) ∧ w'.cell? ⟨gb174, 1, none⟩ = some (.int .i64 a1_1) ∧ w'.cell? ⟨gb174, 2, none⟩ = some (.int .i64 a1_2) ∧ w'.cell? ⟨gb174, 3, none⟩ = some (.int .i64 a1_3) ∧ w'.cell? ⟨gb174, 4, none⟩ = some (.int .i64 a1_4) ∧ w'.cell? ⟨gb174, 5, none⟩ = some (.int .i64 a1_5) ∧ w'.cell? ⟨ad175.block, ad175.off + 3, none⟩ = some (.slice A175_0 (rd_L5 l0_0 3).length c175_0) ∧ w'.cell? ⟨ad175.block, ad175.off + 4, none⟩ = some (.slice A177_0 (rd_L5 l0_0 4).length c177_0)) (ds := []) (Ya 31 0) (by kernel_rfl) rfl rfl ⟨(blk_cell BK173.out 0).trans rfl, (blk_cell BK173.out 1).trans rfl, (blk_cell BK174.out 0).trans rfl, (blk_cell BK174.out 1).trans rfl, (blk_cell BK174.out 2).trans rfl, (blk_cell BK174.out 3).trans rfl, (blk_cell BK174.out 4).trans rfl, (blk_cell BK174.out 5).trans rfl, ((HB.out.cell (World.block_lt_of_cell? w _ hw175_0)).trans hw175_0), ((HB.out.cell (World.block_lt_of_cell? w _ hw177_0)).trans hw177_0)⟩ (fun hHeld => ?_); refine with_tabW spec_DayFits.tab1 spec_DayFits.bits1 (fun HT_ HW_ => ?_)
     generalize w19.drew = w20 at BK173 BK174 HB HR175_0 HR177_0 hx175_0 hx177_0 hHeld ⊢
     refine pure_ (i := 0) (N := some 5) (v := ?_) (a' := ?_) (Ya 31 1) rfl rfl (any_of HT_.out (by kernel_rfl)) (fun _ _ _ h => h) (Or.inl ⟨by rfl, ?_⟩) ?_ ?_
     rotate_left
     ·intro w'
      go_simp
      with_reducible rfl
     rotate_left
     ·simp only [Act.put, List.setIfInBounds_toArray, List.set_cons_zero, List.set_cons_succ, i64_w, i32_w]
      rfl
     refine pure_ (i := 4) (N := some 9) (v := ?_) (a' := ?_) (Ya 31 17) rfl rfl (any_of HT_.out (by kernel_rfl)) (fun _ _ _ h => h) (Or.inl ⟨by rfl, ?_⟩) ?_ ?_
     rotate_left
     ·intro w'
      go_simp
      with_reducible rfl
     rotate_left
     ·simp only [Act.put, List.setIfInBounds_toArray, List.set_cons_zero, List.set_cons_succ, i64_w, i32_w]
      rfl
     refine take_ (i := 1) (N := some 6) (v := ?_) (a' := ?_) (Ya 31 19) rfl rfl (take_ofW HT_.out HW_.out (by kernel_rfl)) (fun _ _ _ h => h) (Or.inl ⟨by rfl, ?_⟩) hHeld ?_ ?_
     rotate_left
     ·rintro w' ⟨s0, s1, s2, s3, s4, s5, s6, s7, s8, s9⟩
      go_simp
      with_reducible rfl
     rotate_left
     ·simp only [Act.put, List.setIfInBounds_toArray, List.set_cons_zero, List.set_cons_succ, i64_w, i32_w]
      rfl
     refine pure_ (i := 2) (N := some 7) (v := ?_) (a' := ?_) (Ya 31 23) rfl rfl (any_of HT_.out (by kernel_rfl)) (fun _ _ _ h => h) (Or.inl ⟨by rfl, ?_⟩) ?_ ?_
     rotate_left
     ·intro w'
      go_simp
      with_reducible rfl
     rotate_left
     ·simp only [Act.put, List.setIfInBounds_toArray, List.set_cons_zero, List.set_cons_succ, i64_w, i32_w]
      rfl
     refine take_ (i := 3) (N := some 8) (v := ?_) (a' := ?_) (Ya 31 31) rfl rfl (take_ofW HT_.out HW_.out (by kernel_rfl)) (fun _ _ _ h => h) (Or.inl ⟨by rfl, ?_⟩) hHeld ?_ ?_
     rotate_left
     ·rintro w' ⟨s0, s1, s2, s3, s4, s5, s6, s7, s8, s9⟩
      go_simp
      with_reducible rfl
     rotate_left
     ·simp only [Act.put, List.setIfInBounds_toArray, List.set_cons_zero, List.set_cons_succ, i64_w, i32_w]
      rfl
     refine take_ (i := 5) (N := some 10) (v := ?_) (a' := ?_) (Ya 31 63) rfl rfl (take_ofW HT_.out HW_.out (by kernel_rfl)) (fun _ _ _ h => h) (Or.inl ⟨by rfl, ?_⟩) hHeld ?_ ?_
     rotate_left
     ·rintro w' ⟨s0, s1, s2, s3, s4, s5, s6, s7, s8, s9⟩
      go_simp
      with_reducible rfl
     rotate_left
     ·simp only [Act.put, List.setIfInBounds_toArray, List.set_cons_zero, List.set_cons_succ, i64_w, i32_w]
      rfl
     refine one_ (i := 6) (N := some 11) (Ya 31 127) rfl rfl (one_of HT_.out (by kernel_rfl)) (by decide) (fun K hK => ?_)
     refine goes_ Tryz.func36 (by kernel_rfl) rfl #[.int .i64 3, .slice A175_0 (rd_L5 l0_0 3).length c175_0, .int .i64 a1_2] (by rfl) rfl rfl (by (try simp only [List.map_toArray, List.map_cons, List.map_nil]); first | done | rfl | (simp only [List.length_drop, List.length_take]; rfl)) ?_
     with_reducible refine (spec_Has.calls k 3 _ _ (rd_L5 l0_0 3) a1_2 true _ ?side1 ?side2 A4.out).mono ?_
     (case side1 => repeat (first | exact (Kd.C_below HR175_0.out HB.out) | (with_reducible refine Kd.C_alloc ?_ _) | (with_reducible refine Kd.C_drewN ?_ _) | (with_reducible refine Kd.C_drew ?_)))
     (case side2 => exact HC175_0.out)
     rintro e w21 ⟨rfl, hb⟩
     refine ⟨_, rfl, ?_⟩
     have n0_ := Aside0.mk (blk_below (g := gb173) (o := .cells #[.slice (some ad175) l0_0.length c0_0, .bool a0_1] 30 (0, 0)) (by (with_reducible repeat (first | refine blk_drewN ?_ _ | refine blk_drew ?_ | refine blk_alloc ?_ _)); exact BK173.out) hb)
     have n1_ := Aside0.mk (blk_below (g := gb174) (o := .cells #[.int .i64 a1_0, .int .i64 a1_1, .int .i64 a1_2, .int .i64 a1_3, .int .i64 a1_4, .int .i64 a1_5] 43 (0, 0)) (by (with_reducible repeat (first | refine blk_drewN ?_ _ | refine blk_drew ?_ | refine blk_alloc ?_ _)); exact BK174.out) hb)
     have n2_ := Aside0.mk (below_step (by repeat (first | (with_reducible first | exact HB.out | apply below_alloc | apply pw_below_drewN | apply below_drew1 | refine below_set ?_ GE173.out | refine below_set ?_ GE174.out) | exact HB.out)) hb)
     clear BK173
     clear BK174
     clear HB
     have BK173 := n0_
     have BK174 := n1_
     have HB := n2_
     clear n0_ n1_ n2_
     (try clear hb)
     (try clear hb2)
     (try clear hk)
     (try clear hi)
     refine hK.out _ _ ⟨(blk_cell BK173.out 0).trans rfl, (blk_cell BK173.out 1).trans rfl, (blk_cell BK174.out 0).trans rfl, (blk_cell BK174.out 1).trans rfl, (blk_cell BK174.out 2).trans rfl, (blk_cell BK174.out 3).trans rfl, (blk_cell BK174.out 4).trans rfl, (blk_cell BK174.out 5).trans rfl, ((HB.out.cell (World.block_lt_of_cell? w _ hw175_0)).trans hw175_0), ((HB.out.cell (World.block_lt_of_cell? w _ hw177_0)).trans hw177_0)⟩ (fun hHeld => ?_)
     clear hK K
     refine norm_ (a' := ?_) ?_ ?_
     rotate_left
     ·show Act.put _ (some 11) _ = _
      simp only [Act.put, List.setIfInBounds_toArray, List.set_cons_zero, List.set_cons_succ, i64_w, i32_w]
      rfl
     refine pure_ (i := 7) (N := some 12) (v := ?_) (a' := ?_) (Ya 31 255) rfl rfl (any_of HT_.out (by kernel_rfl)) (fun _ _ _ h => h) (Or.inl ⟨by rfl, ?_⟩) ?_ ?_
     rotate_left
     ·intro w'
      go_simp
      with_reducible rfl
     rotate_left
     ·simp only [Act.put, List.setIfInBounds_toArray, List.set_cons_zero, List.set_cons_succ, i64_w, i32_w]
      rfl
     refine pure_ (i := 8) (N := some 13) (v := ?_) (a' := ?_) (Ya 31 511) rfl rfl (any_of HT_.out (by kernel_rfl)) (fun _ _ _ h => h) (Or.inl ⟨by rfl, ?_⟩) ?_ ?_
     rotate_left
     ·intro w'
      go_simp
      with_reducible rfl
     rotate_left
     ·simp only [Act.put, List.setIfInBounds_toArray, List.set_cons_zero, List.set_cons_succ, i64_w, i32_w]
      rfl
     refine pure_ (i := 12) (N := some 17) (v := ?_) (a' := ?_) (Ya 31 4607) rfl rfl (any_of HT_.out (by kernel_rfl)) (fun _ _ _ h => h) (Or.inl ⟨by rfl, ?_⟩) ?_ ?_
     rotate_left
     ·intro w'
      go_simp
      with_reducible rfl
     rotate_left
     ·simp only [Act.put, List.setIfInBounds_toArray, List.set_cons_zero, List.set_cons_succ, i64_w, i32_w]
      rfl
     refine take_ (i := 9) (N := some 14) (v := ?_) (a' := ?_) (Ya 31 5119) rfl rfl (take_ofW HT_.out HW_.out (by kernel_rfl)) (fun _ _ _ h => h) (Or.inl ⟨by rfl, ?_⟩) hHeld ?_ ?_
     rotate_left
     ·rintro w' ⟨s0, s1, s2, s3, s4, s5, s6, s7, s8, s9⟩
      go_simp
      with_reducible rfl
     rotate_left
     ·simp only [Act.put, List.setIfInBounds_toArray, List.set_cons_zero, List.set_cons_succ, i64_w, i32_w]
      rfl
     refine pure_ (i := 10) (N := some 15) (v := ?_) (a' := ?_) (Ya 31 6143) rfl rfl (any_of HT_.out (by kernel_rfl)) (fun _ _ _ h => h) (Or.inl ⟨by rfl, ?_⟩) ?_ ?_
     rotate_left
     ·intro w'
      go_simp
      with_reducible rfl
     rotate_left
     ·simp only [Act.put, List.setIfInBounds_toArray, List.set_cons_zero, List.set_cons_succ, i64_w, i32_w]
      rfl
     refine take_ (i := 11) (N := some 16) (v := ?_) (a' := ?_) (Ya 31 8191) rfl rfl (take_ofW HT_.out HW_.out (by kernel_rfl)) (fun _ _ _ h => h) (Or.inl ⟨by rfl, ?_⟩) hHeld ?_ ?_
     rotate_left
     ·rintro w' ⟨s0, s1, s2, s3, s4, s5, s6, s7, s8, s9⟩
      go_simp
      with_reducible rfl
     rotate_left
     ·simp only [Act.put, List.setIfInBounds_toArray, List.set_cons_zero, List.set_cons_succ, i64_w, i32_w]
      rfl
     refine take_ (i := 13) (N := some 18) (v := ?_) (a' := ?_) (Ya 31 16383) rfl rfl (take_ofW HT_.out HW_.out (by kernel_rfl)) (fun _ _ _ h => h) (Or.inl ⟨by rfl, ?_⟩) hHeld ?_ ?_
     rotate_left
     ·rintro w' ⟨s0, s1, s2, s3, s4, s5, s6, s7, s8, s9⟩
      go_simp
      with_reducible rfl
     rotate_left
     ·simp only [Act.put, List.setIfInBounds_toArray, List.set_cons_zero, List.set_cons_succ, i64_w, i32_w]
      rfl
     refine one_ (i := 14) (N := some 19) (Ya 31 32767) rfl rfl (one_of HT_.out (by kernel_rfl)) (by decide) (fun K hK => ?_)
     refine goes_ Tryz.func36 (by kernel_rfl) rfl #[.int .i64 4, .slice A177_0 (rd_L5 l0_0 4).length c177_0, .int .i64 a1_1] (by rfl) rfl rfl (by (try simp only [List.map_toArray, List.map_cons, List.map_nil]); first | done | rfl | (simp only [List.length_drop, List.length_take]; rfl)) ?_
     with_reducible refine (spec_Has.calls k 4 _ _ (rd_L5 l0_0 4) a1_1 false _ ?side1 ?side2 A7.out).mono ?_
     (case side1 => repeat (first | exact (Kd.C_below HR177_0.out HB.out) | (with_reducible refine Kd.C_alloc ?_ _) | (with_reducible refine Kd.C_drewN ?_ _) | (with_reducible refine Kd.C_drew ?_)))
     (case side2 => exact HC177_0.out)
     rintro e w22 ⟨rfl, hb⟩
     refine ⟨_, rfl, ?_⟩
     have n0_ := Aside0.mk (blk_below (g := gb173) (o := .cells #[.slice (some ad175) l0_0.length c0_0, .bool a0_1] 30 (0, 0)) (by (with_reducible repeat (first | refine blk_drewN ?_ _ | refine blk_drew ?_ | refine blk_alloc ?_ _)); exact BK173.out) hb)
     have n1_ := Aside0.mk (blk_below (g := gb174) (o := .cells #[.int .i64 a1_0, .int .i64 a1_1, .int .i64 a1_2, .int .i64 a1_3, .int .i64 a1_4, .int .i64 a1_5] 43 (0, 0)) (by (with_reducible repeat (first | refine blk_drewN ?_ _ | refine blk_drew ?_ | refine blk_alloc ?_ _)); exact BK174.out) hb)
     have n2_ := Aside0.mk (below_step (by repeat (first | (with_reducible first | exact HB.out | apply below_alloc | apply pw_below_drewN | apply below_drew1 | refine below_set ?_ GE173.out | refine below_set ?_ GE174.out) | exact HB.out)) hb)
     clear BK173
     clear BK174
     clear HB
     have BK173 := n0_
     have BK174 := n1_
     have HB := n2_
     clear n0_ n1_ n2_
     (try clear hb)
     (try clear hb2)
     (try clear hk)
     (try clear hi)
     refine hK.out _ _ ⟨(blk_cell BK173.out 0).trans rfl, (blk_cell BK173.out 1).trans rfl, (blk_cell BK174.out 0).trans rfl, (blk_cell BK174.out 1).trans rfl, (blk_cell BK174.out 2).trans rfl, (blk_cell BK174.out 3).trans rfl, (blk_cell BK174.out 4).trans rfl, (blk_cell BK174.out 5).trans rfl, ((HB.out.cell (World.block_lt_of_cell? w _ hw175_0)).trans hw175_0), ((HB.out.cell (World.block_lt_of_cell? w _ hw177_0)).trans hw177_0)⟩ (fun hHeld => ?_)
     clear hK K
     refine norm_ (a' := ?_) ?_ ?_
     rotate_left
     ·show Act.put _ (some 19) _ = _
      simp only [Act.put, List.setIfInBounds_toArray, List.set_cons_zero, List.set_cons_succ, i64_w, i32_w]
      rfl
     refine pure_ (i := 15) (N := some 20) (v := ?_) (a' := ?_) (Ya 31 65535) rfl rfl (any_of HT_.out (by kernel_rfl)) (fun _ _ _ h => h) (Or.inl ⟨by rfl, ?_⟩) ?_ ?_
     rotate_left
     ·intro w'
      go_simp
      with_reducible rfl
     rotate_left
     ·simp only [Act.put, List.setIfInBounds_toArray, List.set_cons_zero, List.set_cons_succ, i64_w, i32_w]
      rfl
     refine pure_ (i := 16) (N := some 21) (v := ?_) (a' := ?_) (Ya 31 131071) rfl rfl (any_of HT_.out (by kernel_rfl)) (fun _ _ _ h => h) (Or.inl ⟨by rfl, ?_⟩) ?_ ?_
     rotate_left
     ·intro w'
      go_simp
      with_reducible rfl
     rotate_left
     ·simp only [Act.put, List.setIfInBounds_toArray, List.set_cons_zero, List.set_cons_succ, i64_w, i32_w]
      rfl
     refine pure_ (i := 17) (N := some 22) (v := undef) (a' := ?_) (Ya 31 262143) rfl rfl (any_of HT_.out (by kernel_rfl)) (fun _ _ _ h => h) (Or.inr ⟨by rfl, rfl⟩) ?_ ?_
     rotate_left
     ·simp only [Act.put, List.setIfInBounds_toArray, List.set_cons_zero, List.set_cons_succ, i64_w, i32_w]
      rfl
     refine pure_ (i := 18) (N := some 23) (v := undef) (a' := ?_) (Ya 31 524287) rfl rfl (any_of HT_.out (by kernel_rfl)) (fun _ _ _ h => h) (Or.inr ⟨by rfl, rfl⟩) ?_ ?_
     rotate_left
     ·simp only [Act.put, List.setIfInBounds_toArray, List.set_cons_zero, List.set_cons_succ, i64_w, i32_w]
      rfl
     refine pure_ (i := 19) (N := some 24) (v := undef) (a' := ?_) (Ya 31 1048575) rfl rfl (any_of HT_.out (by kernel_rfl)) (fun _ _ _ h => h) (Or.inr ⟨by rfl, rfl⟩) ?_ ?_
     rotate_left
     ·simp only [Act.put, List.setIfInBounds_toArray, List.set_cons_zero, List.set_cons_succ, i64_w, i32_w]
      rfl
     refine pure_ (i := 20) (N := some 25) (v := undef) (a' := ?_) (Ya 31 2097151) rfl rfl (any_of HT_.out (by kernel_rfl)) (fun _ _ _ h => h) (Or.inr ⟨by rfl, rfl⟩) ?_ ?_
     rotate_left
     ·simp only [Act.put, List.setIfInBounds_toArray, List.set_cons_zero, List.set_cons_succ, i64_w, i32_w]
      rfl
     refine pure_ (i := 21) (N := some 26) (v := undef) (a' := ?_) (Ya 31 4194303) rfl rfl (any_of HT_.out (by kernel_rfl)) (fun _ _ _ h => h) (Or.inr ⟨by rfl, rfl⟩) ?_ ?_
     rotate_left
     ·simp only [Act.put, List.setIfInBounds_toArray, List.set_cons_zero, List.set_cons_succ, i64_w, i32_w]
      rfl
     refine pure_ (i := 22) (N := some 27) (v := undef) (a' := ?_) (Ya 31 8388607) rfl rfl (any_of HT_.out (by kernel_rfl)) (fun _ _ _ h => h) (Or.inr ⟨by rfl, rfl⟩) ?_ ?_
     rotate_left
     ·simp only [Act.put, List.setIfInBounds_toArray, List.set_cons_zero, List.set_cons_succ, i64_w, i32_w]
      rfl
     refine pure_ (i := 23) (N := some 28) (v := undef) (a' := ?_) (Ya 31 16777215) rfl rfl (any_of HT_.out (by kernel_rfl)) (fun _ _ _ h => h) (Or.inr ⟨by rfl, rfl⟩) ?_ ?_
     rotate_left
     ·simp only [Act.put, List.setIfInBounds_toArray, List.set_cons_zero, List.set_cons_succ, i64_w, i32_w]
      rfl
     refine pure_ (i := 24) (N := some 29) (v := undef) (a' := ?_) (Ya 31 33554431) rfl rfl (any_of HT_.out (by kernel_rfl)) (fun _ _ _ h => h) (Or.inr ⟨by rfl, rfl⟩) ?_ ?_
     rotate_left
     ·simp only [Act.put, List.setIfInBounds_toArray, List.set_cons_zero, List.set_cons_succ, i64_w, i32_w]
      rfl
     refine pure_ (i := 25) (N := some 30) (v := undef) (a' := ?_) (Ya 31 67108863) rfl rfl (any_of HT_.out (by kernel_rfl)) (fun _ _ _ h => h) (Or.inr ⟨by rfl, rfl⟩) ?_ ?_
     rotate_left
     ·simp only [Act.put, List.setIfInBounds_toArray, List.set_cons_zero, List.set_cons_succ, i64_w, i32_w]
      rfl
     refine pure_ (i := 26) (N := some 31) (v := undef) (a' := ?_) (Ya 31 134217727) rfl rfl (any_of HT_.out (by kernel_rfl)) (fun _ _ _ h => h) (Or.inr ⟨by rfl, rfl⟩) ?_ ?_
     rotate_left
     ·simp only [Act.put, List.setIfInBounds_toArray, List.set_cons_zero, List.set_cons_succ, i64_w, i32_w]
      rfl
     refine pure_ (i := 27) (N := some 32) (v := undef) (a' := ?_) (Ya 31 268435455) rfl rfl (any_of HT_.out (by kernel_rfl)) (fun _ _ _ h => h) (Or.inr ⟨by rfl, rfl⟩) ?_ ?_
     rotate_left
     ·simp only [Act.put, List.setIfInBounds_toArray, List.set_cons_zero, List.set_cons_succ, i64_w, i32_w]
      rfl
     refine pure_ (i := 28) (N := some 33) (v := undef) (a' := ?_) (Ya 31 536870911) rfl rfl (any_of HT_.out (by kernel_rfl)) (fun _ _ _ h => h) (Or.inr ⟨by rfl, rfl⟩) ?_ ?_
     rotate_left
     ·simp only [Act.put, List.setIfInBounds_toArray, List.set_cons_zero, List.set_cons_succ, i64_w, i32_w]
      rfl
     refine pure_ (i := 29) (N := some 34) (v := ?_) (a' := ?_) (Ya 31 1073741823) rfl rfl (any_of HT_.out (by kernel_rfl)) (fun _ _ _ h => h) (Or.inl ⟨by rfl, ?_⟩) ?_ ?_
     rotate_left
     ·intro w'
      go_simp
      with_reducible rfl
     rotate_left
     ·simp only [Act.put, List.setIfInBounds_toArray, List.set_cons_zero, List.set_cons_succ, i64_w, i32_w]
      rfl
     refine pure_ (i := 30) (N := some 4) (v := ?_) (a' := ?_) (Ya 31 2147483647) rfl rfl (any_of HT_.out (by kernel_rfl)) (fun _ _ _ h => h) (Or.inl ⟨by rfl, ?_⟩) ?_ ?_
     rotate_left
     ·intro w'
      go_simp
      with_reducible rfl
     rotate_left
     ·simp only [Act.put, List.setIfInBounds_toArray, List.set_cons_zero, List.set_cons_succ, i64_w, i32_w]
      rfl
     refine done_ (done_of HT_.out (by kernel_rfl)) ?_
     try go_wp2
     go_ret
     exact ⟨by first | rfl | (simp [errW_none, errW_some] <;> rfl) | (simp [*, errW_none, errW_some] <;> rfl), by repeat (first | (with_reducible first | exact HB.out | apply below_alloc | apply pw_below_drewN | apply below_drew1 | refine below_set ?_ GE173.out | refine below_set ?_ GE174.out) | exact HB.out)⟩
   ·rw [if_neg c6] at H
    exact absurd H (by simp)
  ·replace c5 := Bool.eq_false_iff.mpr c5
   subst c5
   have H1 : (some false) = some r := by rw [if_neg (show ¬ (false = true) by decide)] at H; exact H
   clear H
   have H := H1
   clear H1
   obtain rfl := Option.some.inj H
   go_enter Tryz.func35, Tryz.ntmps35
   try go_wp2_with (first | ((with_reducible refine gate_dst (N := 2) rfl ?_); refine box_event ?hg (N := 2) ?hd (cs := #[.slice A0_0 l0_0.length c0_0, .bool a0_1]) (t := 30) ?hr ?_; (case hd => rfl); (case hg => rfl); (case hr => first | (go_simp; done) | (go_simp; rfl)); intro gb173 hg w23 hbox hb; have n0_ := Aside0.mk (below_step (by repeat (first | (with_reducible first | exact HB.out | apply below_alloc | apply pw_below_drewN | apply below_drew1) | exact HB.out)) hb); have n1_ := Aside0.mk (hbox); have n2_ := Aside0.mk ((by rw [hg]; exact (below_size (by repeat (first | (with_reducible first | exact HB.out | apply below_alloc | apply pw_below_drewN | apply below_drew1) | exact HB.out))) : w.heap.size ≤ gb173)); have n3_ := Aside0.mk ((by rw [hg]; exact (below_size (by repeat (first | (with_reducible first | exact HB.out | apply below_alloc | apply pw_below_drewN | apply below_drew1) | exact HB.out))) : w.heap.size ≤ gb173)); clear HB; have HB := n0_; have BK173 := n1_; have GW173 := n2_; have GE173 := n3_; clear n0_ n1_ n2_ n3_; clear hb hbox hg) | ((with_reducible refine gate_dst (N := 3) rfl ?_); refine box_event ?hg (N := 3) ?hd (cs := #[.int .i64 a1_0, .int .i64 a1_1, .int .i64 a1_2, .int .i64 a1_3, .int .i64 a1_4, .int .i64 a1_5]) (t := 43) ?hr ?_; (case hd => rfl); (case hg => rfl); (case hr => first | (go_simp; done) | (go_simp; rfl)); intro gb174 hg w24 hbox hb; have n0_ := Aside0.mk (blk_below (g := gb173) (o := .cells #[.slice A0_0 l0_0.length c0_0, .bool a0_1] 30 (0, 0)) (by (with_reducible repeat (first | refine blk_drewN ?_ _ | refine blk_drew ?_ | refine blk_alloc ?_ _)); exact BK173.out) hb); have n1_ := Aside0.mk (below_step (by repeat (first | (with_reducible first | exact HB.out | apply below_alloc | apply pw_below_drewN | apply below_drew1 | refine below_set ?_ GE173.out) | exact HB.out)) hb); have n2_ := Aside0.mk (hbox); have n3_ := Aside0.mk ((by rw [hg]; exact (below_size (by repeat (first | (with_reducible first | exact HB.out | apply below_alloc | apply pw_below_drewN | apply below_drew1 | refine below_set ?_ GE173.out) | exact HB.out))) : w.heap.size ≤ gb174)); have n4_ := Aside0.mk ((by rw [hg]; exact (below_size (by repeat (first | (with_reducible first | exact HB.out | apply below_alloc | apply pw_below_drewN | apply below_drew1 | refine below_set ?_ GE173.out) | exact HB.out))) : w.heap.size ≤ gb174)); have n5_ := Aside0.mk ((by rw [hg]; exact Nat.ne_of_lt (blk_lt (g := gb173) (o := .cells #[.slice A0_0 l0_0.length c0_0, .bool a0_1] 30 (0, 0)) (by (with_reducible repeat (first | refine blk_drewN ?_ _ | refine blk_drew ?_ | refine blk_alloc ?_ _)); exact BK173.out)) : gb173 ≠ gb174)); have n6_ := Aside0.mk ((by rw [hg]; exact Nat.ne_of_gt (blk_lt (g := gb173) (o := .cells #[.slice A0_0 l0_0.length c0_0, .bool a0_1] 30 (0, 0)) (by (with_reducible repeat (first | refine blk_drewN ?_ _ | refine blk_drew ?_ | refine blk_alloc ?_ _)); exact BK173.out)) : gb174 ≠ gb173)); clear BK173; clear HB; have BK173 := n0_; have HB := n1_; have BK174 := n2_; have GW174 := n3_; have GE174 := n4_; have NB173_174 := n5_; have NB174_173 := n6_; clear n0_ n1_ n2_ n3_ n4_ n5_ n6_; clear hb hbox hg))
   have n0_ := Aside0.mk (blk_drew BK173.out)
   have n1_ := Aside0.mk (blk_drew BK174.out)
   have n2_ := Aside0.mk (below_drew1 HB.out)
   clear BK173
   clear BK174
   clear HB
   have BK173 := n0_
   have BK174 := n1_
   have HB := n2_
   clear n0_ n1_ n2_
   have p175 : 0 ≤ (3 : Int) := (by omega)
   have q175 : 3 < (l0_0.length : Int) := of_decide_eq_true (by first | (with_reducible assumption) | assumption)
   obtain ⟨ad175, A175_0, c175_0, e175, hx175_0, hl175_0, hi175_0⟩ := at_L5 HR0_0.out 3 p175 q175
   have hw175_0 := hx175_0
   (try rw [show ((3 : Int)).toNat = 3 from rfl] at hw175_0)
   (try rw [show 3 * 1 = 3 from rfl] at hw175_0)
   (try simp only [Nat.reduceMul, Nat.reduceEqDiff, Go.Addr.add, ↓reduceIte] at hw175_0)
   cases e175
   (try simp only [show (3 : Int).toNat = 3 from rfl, Nat.reduceMul, Nat.reduceEqDiff, Go.Addr.add, ↓reduceIte] at hx175_0)
   have qi175 : (3 < l0_0.length) = True := eq_true (by omega)
   (try rw [show ((3 : Int)).toNat = 3 from rfl] at hx175_0)
   replace hx175_0 := (HB.out.cell (World.block_lt_of_cell? w _ hx175_0)).trans hx175_0
   have HR175_0 := Aside0.mk hi175_0
   have HC175_0 := Aside0.mk hl175_0
   clear hi175_0 hl175_0
   replace p175 := eq_true p175
   replace q175 := eq_true q175
   refine start_ (n := 31) (S := fun w' => w'.cell? ⟨gb173, 0, none⟩ = some (.slice (some ad175) l0_0.length c0_0) ∧ w'.cell? ⟨gb173, 1, none⟩ = some (.bool a0_1) ∧ w'.cell? ⟨gb174, 0, none⟩ = some (.int .i64 a1_0) ∧ w'.cell? ⟨gb174, 1, none⟩ = some (.int .i64 a1_1) ∧ w'.cell? ⟨gb174, 2, none⟩ = some (.int .i64 a1_2) ∧ w'.cell? ⟨gb174, 3, none⟩ = some (.int .i64 a1_3) ∧ w'.cell? ⟨gb174, 4, none⟩ = some (.int .i64 a1_4) ∧ w'.cell? ⟨gb174, 5, none⟩ = some (.int .i64 a1_5) ∧ w'.cell? ⟨ad175.block, ad175.off + 3, none⟩ = some (.slice A175_0 (rd_L5 l0_0 3).length c175_0)) (ds := []) (Ya 31 0) (by kernel_rfl) rfl rfl ⟨(blk_cell BK173.out 0).trans rfl, (blk_cell BK173.out 1).trans rfl, (blk_cell BK174.out 0).trans rfl, (blk_cell BK174.out 1).trans rfl, (blk_cell BK174.out 2).trans rfl, (blk_cell BK174.out 3).trans rfl, (blk_cell BK174.out 4).trans rfl, (blk_cell BK174.out 5).trans rfl, ((HB.out.cell (World.block_lt_of_cell? w _ hw175_0)).trans hw175_0)⟩ (fun hHeld => ?_); refine with_tabW spec_DayFits.tab1 spec_DayFits.bits1 (fun HT_ HW_ => ?_)
   generalize w24.drew = w25 at BK173 BK174 HB HR175_0 hx175_0 hHeld ⊢
   refine pure_ (i := 0) (N := some 5) (v := ?_) (a' := ?_) (Ya 31 1) rfl rfl (any_of HT_.out (by kernel_rfl)) (fun _ _ _ h => h) (Or.inl ⟨by rfl, ?_⟩) ?_ ?_
   rotate_left
   ·intro w'
    go_simp
    with_reducible rfl
   rotate_left
   ·simp only [Act.put, List.setIfInBounds_toArray, List.set_cons_zero, List.set_cons_succ, i64_w, i32_w]
    rfl
   refine pure_ (i := 4) (N := some 9) (v := ?_) (a' := ?_) (Ya 31 17) rfl rfl (any_of HT_.out (by kernel_rfl)) (fun _ _ _ h => h) (Or.inl ⟨by rfl, ?_⟩) ?_ ?_
   rotate_left
   ·intro w'
    go_simp
    with_reducible rfl
   rotate_left
   ·simp only [Act.put, List.setIfInBounds_toArray, List.set_cons_zero, List.set_cons_succ, i64_w, i32_w]
    rfl
   refine take_ (i := 1) (N := some 6) (v := ?_) (a' := ?_) (Ya 31 19) rfl rfl (take_ofW HT_.out HW_.out (by kernel_rfl)) (fun _ _ _ h => h) (Or.inl ⟨by rfl, ?_⟩) hHeld ?_ ?_
   rotate_left
   ·rintro w' ⟨s0, s1, s2, s3, s4, s5, s6, s7, s8⟩
    go_simp
    with_reducible rfl
   rotate_left
   ·simp only [Act.put, List.setIfInBounds_toArray, List.set_cons_zero, List.set_cons_succ, i64_w, i32_w]
    rfl
   refine pure_ (i := 2) (N := some 7) (v := ?_) (a' := ?_) (Ya 31 23) rfl rfl (any_of HT_.out (by kernel_rfl)) (fun _ _ _ h => h) (Or.inl ⟨by rfl, ?_⟩) ?_ ?_
   rotate_left
   ·intro w'
    go_simp
    with_reducible rfl
   rotate_left
   ·simp only [Act.put, List.setIfInBounds_toArray, List.set_cons_zero, List.set_cons_succ, i64_w, i32_w]
    rfl
   refine take_ (i := 3) (N := some 8) (v := ?_) (a' := ?_) (Ya 31 31) rfl rfl (take_ofW HT_.out HW_.out (by kernel_rfl)) (fun _ _ _ h => h) (Or.inl ⟨by rfl, ?_⟩) hHeld ?_ ?_
   rotate_left
   ·rintro w' ⟨s0, s1, s2, s3, s4, s5, s6, s7, s8⟩
    go_simp
    with_reducible rfl
   rotate_left
   ·simp only [Act.put, List.setIfInBounds_toArray, List.set_cons_zero, List.set_cons_succ, i64_w, i32_w]
    rfl
   refine take_ (i := 5) (N := some 10) (v := ?_) (a' := ?_) (Ya 31 63) rfl rfl (take_ofW HT_.out HW_.out (by kernel_rfl)) (fun _ _ _ h => h) (Or.inl ⟨by rfl, ?_⟩) hHeld ?_ ?_
   rotate_left
   ·rintro w' ⟨s0, s1, s2, s3, s4, s5, s6, s7, s8⟩
    go_simp
    with_reducible rfl
   rotate_left
   ·simp only [Act.put, List.setIfInBounds_toArray, List.set_cons_zero, List.set_cons_succ, i64_w, i32_w]
    rfl
   refine one_ (i := 6) (N := some 11) (Ya 31 127) rfl rfl (one_of HT_.out (by kernel_rfl)) (by decide) (fun K hK => ?_)
   refine goes_ Tryz.func36 (by kernel_rfl) rfl #[.int .i64 3, .slice A175_0 (rd_L5 l0_0 3).length c175_0, .int .i64 a1_2] (by rfl) rfl rfl (by (try simp only [List.map_toArray, List.map_cons, List.map_nil]); first | done | rfl | (simp only [List.length_drop, List.length_take]; rfl)) ?_
   with_reducible refine (spec_Has.calls k 3 _ _ (rd_L5 l0_0 3) a1_2 false _ ?side1 ?side2 A4.out).mono ?_
   (case side1 => repeat (first | exact (Kd.C_below HR175_0.out HB.out) | (with_reducible refine Kd.C_alloc ?_ _) | (with_reducible refine Kd.C_drewN ?_ _) | (with_reducible refine Kd.C_drew ?_)))
   (case side2 => exact HC175_0.out)
   rintro e w26 ⟨rfl, hb⟩
   refine ⟨_, rfl, ?_⟩
   have n0_ := Aside0.mk (blk_below (g := gb173) (o := .cells #[.slice (some ad175) l0_0.length c0_0, .bool a0_1] 30 (0, 0)) (by (with_reducible repeat (first | refine blk_drewN ?_ _ | refine blk_drew ?_ | refine blk_alloc ?_ _)); exact BK173.out) hb)
   have n1_ := Aside0.mk (blk_below (g := gb174) (o := .cells #[.int .i64 a1_0, .int .i64 a1_1, .int .i64 a1_2, .int .i64 a1_3, .int .i64 a1_4, .int .i64 a1_5] 43 (0, 0)) (by (with_reducible repeat (first | refine blk_drewN ?_ _ | refine blk_drew ?_ | refine blk_alloc ?_ _)); exact BK174.out) hb)
   have n2_ := Aside0.mk (below_step (by repeat (first | (with_reducible first | exact HB.out | apply below_alloc | apply pw_below_drewN | apply below_drew1 | refine below_set ?_ GE173.out | refine below_set ?_ GE174.out) | exact HB.out)) hb)
   clear BK173
   clear BK174
   clear HB
   have BK173 := n0_
   have BK174 := n1_
   have HB := n2_
   clear n0_ n1_ n2_
   (try clear hb)
   (try clear hb2)
   (try clear hk)
   (try clear hi)
   refine hK.out _ _ ⟨(blk_cell BK173.out 0).trans rfl, (blk_cell BK173.out 1).trans rfl, (blk_cell BK174.out 0).trans rfl, (blk_cell BK174.out 1).trans rfl, (blk_cell BK174.out 2).trans rfl, (blk_cell BK174.out 3).trans rfl, (blk_cell BK174.out 4).trans rfl, (blk_cell BK174.out 5).trans rfl, ((HB.out.cell (World.block_lt_of_cell? w _ hw175_0)).trans hw175_0)⟩ (fun hHeld => ?_)
   clear hK K
   refine norm_ (a' := ?_) ?_ ?_
   rotate_left
   ·show Act.put _ (some 11) _ = _
    simp only [Act.put, List.setIfInBounds_toArray, List.set_cons_zero, List.set_cons_succ, i64_w, i32_w]
    rfl
   refine pure_ (i := 7) (N := some 12) (v := ?_) (a' := ?_) (Ya 31 255) rfl rfl (any_of HT_.out (by kernel_rfl)) (fun _ _ _ h => h) (Or.inl ⟨by rfl, ?_⟩) ?_ ?_
   rotate_left
   ·intro w'
    go_simp
    with_reducible rfl
   rotate_left
   ·simp only [Act.put, List.setIfInBounds_toArray, List.set_cons_zero, List.set_cons_succ, i64_w, i32_w]
    rfl
   refine pure_ (i := 8) (N := some 13) (v := undef) (a' := ?_) (Ya 31 511) rfl rfl (any_of HT_.out (by kernel_rfl)) (fun _ _ _ h => h) (Or.inr ⟨by rfl, rfl⟩) ?_ ?_
   rotate_left
   ·simp only [Act.put, List.setIfInBounds_toArray, List.set_cons_zero, List.set_cons_succ, i64_w, i32_w]
    rfl
   refine pure_ (i := 9) (N := some 14) (v := undef) (a' := ?_) (Ya 31 1023) rfl rfl (any_of HT_.out (by kernel_rfl)) (fun _ _ _ h => h) (Or.inr ⟨by rfl, rfl⟩) ?_ ?_
   rotate_left
   ·simp only [Act.put, List.setIfInBounds_toArray, List.set_cons_zero, List.set_cons_succ, i64_w, i32_w]
    rfl
   refine pure_ (i := 10) (N := some 15) (v := undef) (a' := ?_) (Ya 31 2047) rfl rfl (any_of HT_.out (by kernel_rfl)) (fun _ _ _ h => h) (Or.inr ⟨by rfl, rfl⟩) ?_ ?_
   rotate_left
   ·simp only [Act.put, List.setIfInBounds_toArray, List.set_cons_zero, List.set_cons_succ, i64_w, i32_w]
    rfl
   refine pure_ (i := 11) (N := some 16) (v := undef) (a' := ?_) (Ya 31 4095) rfl rfl (any_of HT_.out (by kernel_rfl)) (fun _ _ _ h => h) (Or.inr ⟨by rfl, rfl⟩) ?_ ?_
   rotate_left
   ·simp only [Act.put, List.setIfInBounds_toArray, List.set_cons_zero, List.set_cons_succ, i64_w, i32_w]
    rfl
   refine pure_ (i := 12) (N := some 17) (v := undef) (a' := ?_) (Ya 31 8191) rfl rfl (any_of HT_.out (by kernel_rfl)) (fun _ _ _ h => h) (Or.inr ⟨by rfl, rfl⟩) ?_ ?_
   rotate_left
   ·simp only [Act.put, List.setIfInBounds_toArray, List.set_cons_zero, List.set_cons_succ, i64_w, i32_w]
    rfl
   refine pure_ (i := 13) (N := some 18) (v := undef) (a' := ?_) (Ya 31 16383) rfl rfl (any_of HT_.out (by kernel_rfl)) (fun _ _ _ h => h) (Or.inr ⟨by rfl, rfl⟩) ?_ ?_
   rotate_left
   ·simp only [Act.put, List.setIfInBounds_toArray, List.set_cons_zero, List.set_cons_succ, i64_w, i32_w]
    rfl
   refine pure_ (i := 14) (N := some 19) (v := undef) (a' := ?_) (Ya 31 32767) rfl rfl (any_of HT_.out (by kernel_rfl)) (fun _ _ _ h => h) (Or.inr ⟨by rfl, rfl⟩) ?_ ?_
   rotate_left
   ·simp only [Act.put, List.setIfInBounds_toArray, List.set_cons_zero, List.set_cons_succ, i64_w, i32_w]
    rfl
   refine pure_ (i := 15) (N := some 20) (v := ?_) (a' := ?_) (Ya 31 65535) rfl rfl (any_of HT_.out (by kernel_rfl)) (fun _ _ _ h => h) (Or.inl ⟨by rfl, ?_⟩) ?_ ?_
   rotate_left
   ·intro w'
    go_simp
    with_reducible rfl
   rotate_left
   ·simp only [Act.put, List.setIfInBounds_toArray, List.set_cons_zero, List.set_cons_succ, i64_w, i32_w]
    rfl
   refine pure_ (i := 16) (N := some 21) (v := ?_) (a' := ?_) (Ya 31 131071) rfl rfl (any_of HT_.out (by kernel_rfl)) (fun _ _ _ h => h) (Or.inl ⟨by rfl, ?_⟩) ?_ ?_
   rotate_left
   ·intro w'
    go_simp
    with_reducible rfl
   rotate_left
   ·simp only [Act.put, List.setIfInBounds_toArray, List.set_cons_zero, List.set_cons_succ, i64_w, i32_w]
    rfl
   refine pure_ (i := 17) (N := some 22) (v := undef) (a' := ?_) (Ya 31 262143) rfl rfl (any_of HT_.out (by kernel_rfl)) (fun _ _ _ h => h) (Or.inr ⟨by rfl, rfl⟩) ?_ ?_
   rotate_left
   ·simp only [Act.put, List.setIfInBounds_toArray, List.set_cons_zero, List.set_cons_succ, i64_w, i32_w]
    rfl
   refine pure_ (i := 18) (N := some 23) (v := undef) (a' := ?_) (Ya 31 524287) rfl rfl (any_of HT_.out (by kernel_rfl)) (fun _ _ _ h => h) (Or.inr ⟨by rfl, rfl⟩) ?_ ?_
   rotate_left
   ·simp only [Act.put, List.setIfInBounds_toArray, List.set_cons_zero, List.set_cons_succ, i64_w, i32_w]
    rfl
   refine pure_ (i := 19) (N := some 24) (v := undef) (a' := ?_) (Ya 31 1048575) rfl rfl (any_of HT_.out (by kernel_rfl)) (fun _ _ _ h => h) (Or.inr ⟨by rfl, rfl⟩) ?_ ?_
   rotate_left
   ·simp only [Act.put, List.setIfInBounds_toArray, List.set_cons_zero, List.set_cons_succ, i64_w, i32_w]
    rfl
   refine pure_ (i := 20) (N := some 25) (v := undef) (a' := ?_) (Ya 31 2097151) rfl rfl (any_of HT_.out (by kernel_rfl)) (fun _ _ _ h => h) (Or.inr ⟨by rfl, rfl⟩) ?_ ?_
   rotate_left
   ·simp only [Act.put, List.setIfInBounds_toArray, List.set_cons_zero, List.set_cons_succ, i64_w, i32_w]
    rfl
   refine pure_ (i := 21) (N := some 26) (v := undef) (a' := ?_) (Ya 31 4194303) rfl rfl (any_of HT_.out (by kernel_rfl)) (fun _ _ _ h => h) (Or.inr ⟨by rfl, rfl⟩) ?_ ?_
   rotate_left
   ·simp only [Act.put, List.setIfInBounds_toArray, List.set_cons_zero, List.set_cons_succ, i64_w, i32_w]
    rfl
   refine pure_ (i := 22) (N := some 27) (v := undef) (a' := ?_) (Ya 31 8388607) rfl rfl (any_of HT_.out (by kernel_rfl)) (fun _ _ _ h => h) (Or.inr ⟨by rfl, rfl⟩) ?_ ?_
   rotate_left
   ·simp only [Act.put, List.setIfInBounds_toArray, List.set_cons_zero, List.set_cons_succ, i64_w, i32_w]
    rfl
   refine pure_ (i := 23) (N := some 28) (v := undef) (a' := ?_) (Ya 31 16777215) rfl rfl (any_of HT_.out (by kernel_rfl)) (fun _ _ _ h => h) (Or.inr ⟨by rfl, rfl⟩) ?_ ?_
   rotate_left
   ·simp only [Act.put, List.setIfInBounds_toArray, List.set_cons_zero, List.set_cons_succ, i64_w, i32_w]
    rfl
   refine pure_ (i := 24) (N := some 29) (v := undef) (a' := ?_) (Ya 31 33554431) rfl rfl (any_of HT_.out (by kernel_rfl)) (fun _ _ _ h => h) (Or.inr ⟨by rfl, rfl⟩) ?_ ?_
   rotate_left
   ·simp only [Act.put, List.setIfInBounds_toArray, List.set_cons_zero, List.set_cons_succ, i64_w, i32_w]
    rfl
   refine pure_ (i := 25) (N := some 30) (v := undef) (a' := ?_) (Ya 31 67108863) rfl rfl (any_of HT_.out (by kernel_rfl)) (fun _ _ _ h => h) (Or.inr ⟨by rfl, rfl⟩) ?_ ?_
   rotate_left
   ·simp only [Act.put, List.setIfInBounds_toArray, List.set_cons_zero, List.set_cons_succ, i64_w, i32_w]
    rfl
   refine pure_ (i := 26) (N := some 31) (v := undef) (a' := ?_) (Ya 31 134217727) rfl rfl (any_of HT_.out (by kernel_rfl)) (fun _ _ _ h => h) (Or.inr ⟨by rfl, rfl⟩) ?_ ?_
   rotate_left
   ·simp only [Act.put, List.setIfInBounds_toArray, List.set_cons_zero, List.set_cons_succ, i64_w, i32_w]
    rfl
   refine pure_ (i := 27) (N := some 32) (v := undef) (a' := ?_) (Ya 31 268435455) rfl rfl (any_of HT_.out (by kernel_rfl)) (fun _ _ _ h => h) (Or.inr ⟨by rfl, rfl⟩) ?_ ?_
   rotate_left
   ·simp only [Act.put, List.setIfInBounds_toArray, List.set_cons_zero, List.set_cons_succ, i64_w, i32_w]
    rfl
   refine pure_ (i := 28) (N := some 33) (v := undef) (a' := ?_) (Ya 31 536870911) rfl rfl (any_of HT_.out (by kernel_rfl)) (fun _ _ _ h => h) (Or.inr ⟨by rfl, rfl⟩) ?_ ?_
   rotate_left
   ·simp only [Act.put, List.setIfInBounds_toArray, List.set_cons_zero, List.set_cons_succ, i64_w, i32_w]
    rfl
   refine pure_ (i := 29) (N := some 34) (v := ?_) (a' := ?_) (Ya 31 1073741823) rfl rfl (any_of HT_.out (by kernel_rfl)) (fun _ _ _ h => h) (Or.inl ⟨by rfl, ?_⟩) ?_ ?_
   rotate_left
   ·intro w'
    go_simp
    with_reducible rfl
   rotate_left
   ·simp only [Act.put, List.setIfInBounds_toArray, List.set_cons_zero, List.set_cons_succ, i64_w, i32_w]
    rfl
   refine pure_ (i := 30) (N := some 4) (v := ?_) (a' := ?_) (Ya 31 2147483647) rfl rfl (any_of HT_.out (by kernel_rfl)) (fun _ _ _ h => h) (Or.inl ⟨by rfl, ?_⟩) ?_ ?_
   rotate_left
   ·intro w'
    go_simp
    with_reducible rfl
   rotate_left
   ·simp only [Act.put, List.setIfInBounds_toArray, List.set_cons_zero, List.set_cons_succ, i64_w, i32_w]
    rfl
   refine done_ (done_of HT_.out (by kernel_rfl)) ?_
   try go_wp2
   go_ret
   exact ⟨by first | rfl | (simp [errW_none, errW_some] <;> rfl) | (simp [*, errW_none, errW_some] <;> rfl), by repeat (first | (with_reducible first | exact HB.out | apply below_alloc | apply pw_below_drewN | apply below_drew1 | refine below_set ?_ GE173.out | refine below_set ?_ GE174.out) | exact HB.out)⟩
 ·rw [if_neg c3] at H
  exact absurd H (by simp)
end Go.Proofs.YtemgofomhjabpaaGreatDoor.Core
