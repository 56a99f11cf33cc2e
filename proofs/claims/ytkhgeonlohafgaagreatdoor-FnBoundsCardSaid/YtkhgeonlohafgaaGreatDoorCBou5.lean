/-
  PROVED: THE CARD OF laws.FnBounds: for every part, number and moment that come in, the call returns true, and the arguments read as they did.
  CONDITIONS: the row's own ('laid': tables of Go's library read as the row lists them; the tie is given).
-/
import Derived.Test.YtkhgeonlohafgaaGreatDoorCBou1
import Derived.Test.YtkhgeonlohafgaaGreatDoorCBou2
import Derived.Test.YtkhgeonlohafgaaGreatDoorCBou3
import Derived.Test.YtkhgeonlohafgaaGreatDoorCBou4
import Derived.OpenShut
import Derived.Test.YtkhgeonlohafgaaGreatDoorCards
import Derived.Test.YtkhgeonlohafgaaGreatDoorTie
import Derived.ProofKit
import Derived.LaidMore
import Derived.Lay
import Derived.SevenTiedAt
import Derived.Carry
namespace Go.Proofs.YtkhgeonlohafgaaGreatDoor.Core
open Go.RowKit Go.Proofs.YtkhgeonlohafgaaGreatDoorW.PrintWords Go.ChangeShapes Go.WideShapes Go.Deep
set_option maxRecDepth 100000
section
variable {H : Type} {enc : TypeId × Value → H} {P : Program} {w : World} {base : Nat} {spare : Nat → Bool} {held : Bool}
theorem list6 {α : Type} {l : List α} (h : l.length = 6) : ∃ c0 c1 c2 c3 c4 c5, l = [c0, c1, c2, c3, c4, c5] := by
  match l, h with
  | [c0, c1, c2, c3, c4, c5], _ => exact ⟨c0, c1, c2, c3, c4, c5, rfl⟩
theorem trod_struct6 {t : TypeId} {f0 f1 f2 f3 f4 f5 : Field} {fuel : Nat} {cs : List Value} {x : DataW H × List MemPlace} (ht : P.underlying t = some (.struct #[f0, f1, f2, f3, f4, f5])) (h : DataW.trod enc P w base spare held fuel t cs = some x) :
    ∃ y0 y1 y2 y3 y4 y5 n, DataW.trod enc P w base spare held n f0.type ((cs.drop f0.offset).take (P.cellsOf f0.type)) = some y0 ∧ DataW.trod enc P w base spare held n f1.type ((cs.drop f1.offset).take (P.cellsOf f1.type)) = some y1 ∧ DataW.trod enc P w base spare held n f2.type ((cs.drop f2.offset).take (P.cellsOf f2.type)) = some y2 ∧
      DataW.trod enc P w base spare held n f3.type ((cs.drop f3.offset).take (P.cellsOf f3.type)) = some y3 ∧ DataW.trod enc P w base spare held n f4.type ((cs.drop f4.offset).take (P.cellsOf f4.type)) = some y4 ∧ DataW.trod enc P w base spare held n f5.type ((cs.drop f5.offset).take (P.cellsOf f5.type)) = some y5 := by
  obtain ⟨xs, n, _, rfl, hl, hlen, hf⟩ := DataW.trod_struct ht h
  obtain ⟨y0, y1, y2, y3, y4, y5, rfl⟩ := list6 (show xs.length = 6 from hlen)
  exact ⟨y0, y1, y2, y3, y4, y5, n, by simpa using hf 0 f0 rfl, by simpa using hf 1 f1 rfl, by simpa using hf 2 f2 rfl, by simpa using hf 3 f3 rfl, by simpa using hf 4 f4 rfl, by simpa using hf 5 f5 rfl⟩
end
section
variable {H : Type} {enc : TypeId × Value → H} {W : World} {spare : Nat → Bool} {held : Bool}
theorem read_moment {v : Value} {d : DataW H} {p : List MemPlace} {r : Reach} {b0 : Nat} (hv : Value.okWide Tryz.prog W r b0 23 v) (h : DataW.Trod enc Tryz.prog W 0 spare held 23 v d p) :
    ∃ y mo d h mi s : Int, v = .agg #[.int .i64 y, .int .i64 mo, .int .i64 d, .int .i64 h, .int .i64 mi, .int .i64 s] := by
  obtain ⟨cs, rfl, hsz⟩ := okWide_struct Tryz.underlying23 hv
  obtain ⟨cs⟩ := cs
  obtain ⟨fuel, hf⟩ := h
  have hl : cs.length = 6 := hsz.trans (by kernel_rfl)
  obtain ⟨y0, y1, y2, y3, y4, y5, m, h0, h1, h2, h3, h4, h5⟩ := trod_struct6 Tryz.underlying23 hf
  obtain ⟨c0, c1, c2, c3, c4, c5, rfl⟩ := list6 hl
  rw [show Tryz.prog.cellsOf 3 = 1 by kernel_rfl] at h0 h1 h2 h3 h4 h5
  obtain ⟨i0, e0, _⟩ := DataW.trod_int Tryz.underlying3 h0
  obtain ⟨i1, e1, _⟩ := DataW.trod_int Tryz.underlying3 h1
  obtain ⟨i2, e2, _⟩ := DataW.trod_int Tryz.underlying3 h2
  obtain ⟨i3, e3, _⟩ := DataW.trod_int Tryz.underlying3 h3
  obtain ⟨i4, e4, _⟩ := DataW.trod_int Tryz.underlying3 h4
  obtain ⟨i5, e5, _⟩ := DataW.trod_int Tryz.underlying3 h5
  obtain rfl : c0 = .int .i64 i0 := by simpa [Value.cells] using e0
  obtain rfl : c1 = .int .i64 i1 := by simpa [Value.cells] using e1
  obtain rfl : c2 = .int .i64 i2 := by simpa [Value.cells] using e2
  obtain rfl : c3 = .int .i64 i3 := by simpa [Value.cells] using e3
  obtain rfl : c4 = .int .i64 i4 := by simpa [Value.cells] using e4
  obtain rfl : c5 = .int .i64 i5 := by simpa [Value.cells] using e5
  exact ⟨i0, i1, i2, i3, i4, i5, rfl⟩
theorem read_int {v : Value} {d : DataW H} {p : List MemPlace} {r : Reach} {b0 : Nat} (hv : Value.okWide Tryz.prog W r b0 3 v) (h : DataW.Trod enc Tryz.prog W 0 spare held 3 v d p) :
    ∃ n : Int, v = .int .i64 n ∧ True := by
  obtain ⟨a, rfl, _⟩ := open_int Tryz.underlying3 hv h
  exact ⟨a, rfl, trivial⟩
end
end Go.Proofs.YtkhgeonlohafgaaGreatDoor.Core
namespace Go.Proofs.YtkhgeonlohafgaaGreatDoor.FnBoundsRow
open Go.ChangeShapes Go.WideShapes Go.ChangeAt Go.RowKit Go.Proofs.YtkhgeonlohafgaaGreatDoorW.PrintWords Go.Proofs.YtkhgeonlohafgaaGreatDoor.Core
theorem own : ownKnob Tryz.prog.godebug = none := by kernel_rfl
theorem laidOut : laidOutB Tryz.prog = true := by kernel_rfl
set_option maxRecDepth 100000 in
theorem lifted (os : Os) (started : os.Started) (H : Type) (enc : TypeId × Value → H) :
    ReturnsInHanded {} Tryz.checked os 3 .any (fun w args => (Rows.fnBoundsSpec.pre enc Tryz.prog Tryz.f3 Rows.fnBoundsRow.domain false w args ∧ laidMetH Tryz.prog Rows.fnBoundsRow.laid w) ∧ sizedMet enc Tryz.prog Tryz.f3 (OpenSpec.ofChange Rows.fnBoundsSpec) false w args)
      (Rows.fnBoundsSpec.post enc Tryz.prog Tryz.f3 false true false false) := by
  refine returnsInHanded_of_change_and (C := Tryz.checked) (X := fun w _ => laidMetH Tryz.prog Rows.fnBoundsRow.laid w) (fun _ _ _ hh h => h.of_heap hh) own started (by kernel_rfl) Tryz.func3
    (ChangeSpec.witness_shaped (enc := enc) (C := Tryz.checked) (os := os) (X := fun w _ => laidMetH Tryz.prog Rows.fnBoundsRow.laid w) false (World.laidAll Tryz.prog os Rows.fnBoundsRow.laid) #[.int .i64 0, .int .i64 0, .agg #[.int .i64 0, .int .i64 0, .int .i64 0, .int .i64 0, .int .i64 0, .int .i64 0]] 8 (World.laidAll_os _ _ _)
      (World.shaped_of_ZipB (by kernel_rfl) (by kernel_rfl)) (by kernel_rfl) (by kernel_rfl) (by kernel_rfl)
      (by rw [MakeChecks.laidMetH_plain _ _ _ (by kernel_rfl)]; exact laidMet_laidAll _ (by kernel_rfl) (by kernel_rfl))) ?_
  intro W base args ds gs before hval0 hW _ _ _ _
  have hval : ∀ (j : Nat) t v, Tryz.f3.params[j]? = some t → args[j]? = some v → Value.okWide Tryz.prog W .any base t v := hval0
  have hW' := hW
  obtain ⟨p, q, hA0, hV, rfl, _, _⟩ := hW
  have hA : DataW.TrodAll enc Tryz.prog W 0 (fun _ => true) true Tryz.f3.params.toList args.toList ds p := hA0
  rw [Tryz.params3] at hA hval
  obtain ⟨v0, vs0, d0, ds0, p0, q0, hargs, rfl, rfl, h0, r0⟩ := trodAll_cons hA
  obtain ⟨v1, vs1, d1, ds1, p1, q1, rfl, rfl, rfl, h1, r1⟩ := trodAll_cons r0
  obtain ⟨v2, vs2, d2, ds2, p2, q2, rfl, rfl, rfl, h2, r2⟩ := trodAll_cons r1
  obtain ⟨rfl, rfl, rfl⟩ := trodAll_nil r2
  obtain rfl : args = #[v0, v1, v2] := by cases args; simp_all
  obtain ⟨rfl, rfl⟩ := trodVars_none hV
  obtain ⟨n0, rfl, _⟩ := read_int (hval 0 3 v0 rfl rfl) h0
  obtain ⟨n1, rfl, _⟩ := read_int (hval 1 3 v1 rfl rfl) h1
  obtain ⟨y2, mo2, d'2, hh2, mi2, s2, rfl⟩ := read_moment (hval 2 23 v2 rfl rfl) h2
  have lt0 : ∀ x ∈ p0, x.block < W.heap.size := fun x hx => hW'.lt x (by simp [hx])
  have lt1 : ∀ x ∈ p1, x.block < W.heap.size := fun x hx => hW'.lt x (by simp [hx])
  have lt2 : ∀ x ∈ p2, x.block < W.heap.size := fun x hx => hW'.lt x (by simp [hx])
  clear hA0 hval0
  obtain ⟨k, hk⟩ := fnBounds_pure n0 n1 y2 mo2 d'2 hh2 mi2 s2
  refine (laws_FnBounds.calls k n0 n1 y2 mo2 d'2 hh2 mi2 s2 true W  hk).mono fun e W' ⟨he, bel⟩ => ?_
  subst he
  exact ⟨_, rfl, _, _, _, [], _, [], hW', trodAll_mk1 (shut_bool Tryz.underlying4 _), (trodAll_cons_mk (Below.trod laidOut (by kernel_rfl) (of_decide_eq_true (by kernel_rfl)) h0 bel lt0) (trodAll_cons_mk (Below.trod laidOut (by kernel_rfl) (of_decide_eq_true (by kernel_rfl)) h1 bel lt1) (trodAll_cons_mk (Below.trod laidOut (by kernel_rfl) (of_decide_eq_true (by kernel_rfl)) h2 bel lt2) trodAll_mk0))), rfl, bel.frame _, fun h => by cases h⟩
theorem said : Rows.FnBoundsSaid :=
  OpenClaim.holds_of_wide 3 Tryz.f3 rfl rfl rfl rfl rfl rfl rfl ⟨rfl, rfl, rfl, rfl, rfl⟩ rfl rfl rfl rfl rfl (by kernel_rfl) Tryz.func3 (by kernel_rfl)
    (of_decide_eq_true (by kernel_rfl)) (by unfold Func.isWrapper; first | (rw [if_pos (by decide +kernel)]; kernel_rfl) | (rw [if_neg (by decide +kernel)]; exact ⟨rfl, rfl⟩))
    (fun os started H enc _ => lifted os started H enc)
theorem plain (f : FuncId) (fn : Func) (hf : Tryz.pinned.checked.prog.funcNamed Rows.fnBoundsRow.func = some f) (hfn : Tryz.pinned.checked.prog.funcs[f]? = some fn) :
    true = Tryz.pinned.checked.prog.looks [] ∧ ∀ (j : Nat) t, fn.params[j]? = some t → Tryz.pinned.checked.prog.wantsStandIn t = false := by
  obtain rfl : f = 3 := Option.some.inj ((show Tryz.prog.funcNamed Rows.fnBoundsRow.func = some 3 by kernel_rfl).symm.trans hf) |>.symm
  obtain rfl : fn = Tryz.f3 := (Option.some.inj (Tryz.func3.symm.trans hfn)).symm
  refine ⟨by kernel_rfl, fun j t ht => ?_⟩
  rw [Tryz.params3] at ht
  have hm : t ∈ [3, 3, 23] := by simpa using Array.mem_of_getElem? ht
  have hall : ([3, 3, 23].all fun u => !Tryz.prog.wantsStandIn u) = true := by kernel_rfl
  exact (show Tryz.prog.wantsStandIn t = false by simpa using List.all_eq_true.1 hall t hm)
theorem card : Rows.FnBoundsCardSaid :=
  Claim7.holds_tied_plain_at .later [] _ _ _ _ said (fun _ h => by cases h) (by kernel_rfl) (fun _ h => by cases h) fnBounds_row_tie rfl ⟨rfl, rfl⟩ (by kernel_rfl) rfl plain (by kernel_rfl)
#print axioms card
end Go.Proofs.YtkhgeonlohafgaaGreatDoor.FnBoundsRow
namespace Go.Proofs.YtkhgeonlohafgaaGreatDoor
theorem fnBounds_holds : Rows.FnBoundsCardSaid := FnBoundsRow.card
end Go.Proofs.YtkhgeonlohafgaaGreatDoor
