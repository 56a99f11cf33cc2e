/-
  PROVED: THE CARD OF laws.FnFew: for every number and moment that come in, the call returns true, and the arguments read as they did.
  CONDITIONS: the row's own ('laid': tables of Go's library read as the row lists them; the tie is given).
-/
import Derived.Test.YtkhgeonlohafgaaGreatDoorCFew1
import Derived.Test.YtkhgeonlohafgaaGreatDoorCFew2
import Derived.Test.YtkhgeonlohafgaaGreatDoorCFew3
import Derived.Deep.Slices
import Derived.Deep.Fields
import Derived.ChangeSame
import Derived.Lib.SmallJoins
import Derived.WideShapes
import Derived.OpenShut
import Derived.Test.YtkhgeonlohafgaaGreatDoorCards
import Derived.Test.YtkhgeonlohafgaaGreatDoorTie
import Derived.ProofKit
import Derived.LaidMore
import Derived.Lay
import Derived.SevenTiedAt
import Derived.Carry
namespace Go.Proofs.YtkhgeonlohafgaaGreatDoor.Core
open Go.RowKit Go.Proofs.YtkhgeonlohafgaaGreatDoorW.PrintWords
def fewP (m : Nat) : List (List UInt8) := List.replicate m [42]
theorem fewP_ok (m : Nat) : ∀ p ∈ fewP m, Plain44 p := fun p hp => by
  obtain rfl := List.eq_of_mem_replicate hp
  exact ⟨by simp, by simp, by simp, by simp, by simp⟩
theorem few_next (m : Nat) (h : 1 ≤ m) : B (joinL 32 (fewP m)) ++ (⟨#[32, 42]⟩ : ByteArray) = B (joinL 32 (fewP (m + 1))) := by
  have h32 : (⟨#[32, 42]⟩ : ByteArray) = B [32, 42] := rfl
  have e : fewP (m + 1) = fewP m ++ [[42]] := List.replicate_succ'
  rw [h32, B_app, e, joinL_snoc 32 (fewP m) [42] (by intro e; have := congrArg List.length e; simp [fewP] at this; omega)]
theorem few_len (m : Nat) (h : m ≤ 12) : (joinL 32 (fewP m)).length ≤ 100 := by
  have := joinL_length 32 (fewP m) 1 (fun p hp => by obtain rfl := List.eq_of_mem_replicate hp; simp)
  simp [fewP] at this ⊢
  omega
theorem valid_five {y mo d h mi s : Int} (hd : DateOk y mo d) (hc : ClockOk h mi s) : ValidC (⟨#[42, 32, 42, 32, 42, 32, 42, 32, 42]⟩ : ByteArray) y mo d h mi s true := by
  have M : Moment' (extOf y mo d h mi s) y mo d h mi s := ⟨hd, hc, rfl⟩
  obtain ⟨b, z0⟩ := segA_zero M 0 (by decide)
  exact valid_segs hd hc [[42], [42], [42], [42], [42]] (fewP_ok 5) rfl true
    (validL_step z0 (validL_step (segA_star M 1 (by decide)) (validL_step (segA_star M 2 (by decide)) (validL_step (segA_star M 3 (by decide)) (validL_step (segA_star M 4 (by decide)) (validL_step (segA_star M 5 (by decide)) rfl))))))
theorem few_end {y mo d h mi s : Int} (hd : DateOk y mo d) (hc : ClockOk h mi s) (m : Nat) (m1 : 1 ≤ m) (m2 : m ≤ 12) (j : Nat) (hj : j + 1 = m) : Ev (fun k => laws_FnFew.l0 k (m : Int) (B (joinL 32 (fewP m))) ((m : Int) - 1) (j : Int) y mo d h mi s) true := by
  have hl := few_len m m2
  have hlen : (fewP m).length = m := List.length_replicate
  have hne : fewP m ≠ [] := by intro e; rw [e] at hlen; simp at hlen; omega
  have hpo : ∀ p ∈ fewP m, PartOk p := fun p hp => ⟨(fewP_ok m p hp).1, (fewP_ok m p hp).2.1⟩
  have v5 := (valid_five hd hc).eq
  refine Ev.done fun k => ?_
  simp only [laws_FnFew.l0]
  rw [if_neg (by omega)]
  by_cases hin : 5 ≤ m ∧ m ≤ 7
  · have hs := segments_ev (fewP m) hpo (by omega) (by omega) (by omega) (fun h => by have := fewP_ok m _ (List.getElem_mem (l := fewP m) (n := 5) (by omega)); have := this.2.2.2.2; omega)
    obtain ⟨K, hK⟩ := hs.rounds
    obtain ⟨Q, hQ⟩ := (partsOk_c _ K _ hK).eq
    simp only [hQ, Option.bind_some, v5]
    rw [if_pos (by omega), decide_eq_true (show (m : Int) ≤ 7 by omega)]
    rfl
  · have hn := normalize_ev (fewP m) hne hpo (by omega)
    obtain ⟨K, hK⟩ := hn.rounds
    have hp : ((fewP m).map B).length < 5 ∨ 7 < ((fewP m).map B).length := by rw [List.length_map, hlen]; omega
    have hq : ((fewP m).map B).length < 1000 := by rw [List.length_map, hlen]; omega
    obtain ⟨Q, hQ⟩ := (partsErr_c _ K _ hK hp hq).eq
    have hv := (validErr_c hd hc _ K _ hK hp hq).eq
    simp only [hQ, hv, Option.bind_some, v5]
    by_cases h5 : (m : Int) ≥ 5
    · rw [if_pos h5, decide_eq_false (show ¬ (m : Int) ≤ 7 by omega)]
      rfl
    · rw [if_neg h5]
      rfl
theorem few_from {y mo d h mi s : Int} (hd : DateOk y mo d) (hc : ClockOk h mi s) (m : Nat) (m1 : 1 ≤ m) (m2 : m ≤ 12) : ∀ (r j : Nat), j + 1 + r = m → Ev (fun k => laws_FnFew.l0 k (m : Int) (B (joinL 32 (fewP (j + 1)))) ((m : Int) - 1) (j : Int) y mo d h mi s) true := by
  intro r
  induction r with
  | zero =>
    intro j hj
    obtain rfl : m = j + 1 := by omega
    exact few_end hd hc (j + 1) m1 m2 j rfl
  | succ r ih =>
    intro j hj
    have hl := few_len (j + 1) (by omega)
    refine Ev.step (fun k => ?_) (ih (j + 1) (by omega))
    simp only [laws_FnFew.l0]
    rw [if_pos (by omega), B_size, if_pos (by omega), few_next (j + 1) (by omega), wrap64_nat j (by omega)]
theorem fnFew_pure (many y mo d h mi s : Int) : ∃ k, laws_FnFew.f k many y mo d h mi s = some true := by
  refine Ev.rounds (g := fun k => laws_FnFew.f k many y mo d h mi s) ?_
  have hT : Ev (fun k => laws_FnFew.j0 k many true y mo d h mi s) true := Ev.done fun k => by simp only [laws_FnFew.j0]; rw [if_pos trivial]
  unfold laws_FnFew.f
  by_cases h1 : many < 1
  · exact Ev.congr (fun k => if_pos h1) hT
  by_cases h2 : many > 12
  · exact Ev.congr (fun k => (if_neg h1).trans (if_pos h2)) hT
  refine Ev.congr (fun k => (if_neg h1).trans (if_neg h2)) ?_
  simp only [laws_moment.f, Option.bind_some, goodM_eq]
  cases hM : goodM y mo d h mi s with
  | false => exact hT
  | true =>
    obtain ⟨hd, hc⟩ := goodM_spec hM
    obtain ⟨m, rfl⟩ : ∃ m : Nat, many = m := ⟨many.toNat, by omega⟩
    refine Ev.succ ?_
    simp only [laws_FnFew.j0, Bool.not_true, Bool.false_eq_true, if_false]
    rw [wrap64_id (by omega) (by omega)]
    exact few_from hd hc m (by omega) (by omega) (m - 1) 0 (by omega)
end Go.Proofs.YtkhgeonlohafgaaGreatDoor.Core
namespace Go.Proofs.YtkhgeonlohafgaaGreatDoor.Core
open Go.RowKit Go.Proofs.YtkhgeonlohafgaaGreatDoorW.PrintWords Go.ChangeShapes Go.WideShapes Go.Deep
set_option maxRecDepth 100000
section
variable {H : Type} {enc : TypeId × Value → H} {P : Program} {W : World} {spare : Nat → Bool} {held : Bool}
end
section
variable {H : Type} {enc : TypeId × Value → H} {W : World} {spare : Nat → Bool} {held : Bool}
end
end Go.Proofs.YtkhgeonlohafgaaGreatDoor.Core
namespace Go.Proofs.YtkhgeonlohafgaaGreatDoor.Core
open Go.RowKit Go.Proofs.YtkhgeonlohafgaaGreatDoorW.PrintWords Go.ChangeShapes Go.WideShapes Go.Deep
set_option maxRecDepth 100000
section
variable {H : Type} {enc : TypeId × Value → H} {P : Program} {w : World} {base : Nat} {spare : Nat → Bool} {held : Bool}
theorem list6 {α : Type} {l : List α} (h : l.length = 6) : ∃ c0 c1 c2 c3 c4 c5, l = [c0, c1, c2, c3, c4, c5] := by
  match l, h with
  | [c0, c1, c2, c3, c4, c5], _ => exact ⟨c0, c1, c2, c3, c4, c5, rfl⟩
theorem trod_struct6 {t : TypeId} {f0 f1 f2 f3 f4 f5 : Field} {fuel : Nat} {cs : List Value} {x : DataW H × List MemPlace} (ht : P.underlying t = some (.struct #[f0, f1, f2, f3, f4, f5])) (h : DataW.trod enc P w base spare held fuel t cs = some x) :
    ∃ y0 y1 y2 y3 y4 y5 n, DataW.trod enc P w base spare held n f0.type ((cs.drop f0.offset).take (P.cellsOf f0.type)) = some y0 ∧ DataW.trod enc P w base spare held n f1.type ((cs.drop f1.offset).take (P.cellsOf f1.type)) = some y1 ∧ DataW.trod enc P w base spare held n f2.type ((cs.drop f2.offset).take (P.cellsOf f2.type)) = some y2 ∧
      DataW.trod enc P w base spare held n f3.type ((cs.drop f3.offset).take (P.cellsOf f3.type)) = some y3 ∧ DataW.trod enc P w base spare held n f4.type ((cs.drop f4.offset).take (P.cellsOf f4.type)) = some y4 ∧ DataW.trod enc P w base spare held n f5.type ((cs.drop f5.offset).take (P.cellsOf f5.type)) = some y5 := by
  obtain ⟨xs, n, _, rfl, hl, hlen, hf⟩ := DataW.trod_struct ht h
  obtain ⟨y0, y1, y2, y3, y4, y5, rfl⟩ := list6 (show xs.length = 6 from hlen)
  exact ⟨y0, y1, y2, y3, y4, y5, n, by simpa using hf 0 f0 rfl, by simpa using hf 1 f1 rfl, by simpa using hf 2 f2 rfl, by simpa using hf 3 f3 rfl, by simpa using hf 4 f4 rfl, by simpa using hf 5 f5 rfl⟩
end
section
variable {H : Type} {enc : TypeId × Value → H} {W : World} {spare : Nat → Bool} {held : Bool}
theorem read_moment {v : Value} {d : DataW H} {p : List MemPlace} {r : Reach} {b0 : Nat} (hv : Value.okWide Tryz.prog W r b0 23 v) (h : DataW.Trod enc Tryz.prog W 0 spare held 23 v d p) :
    ∃ y mo d h mi s : Int, v = .agg #[.int .i64 y, .int .i64 mo, .int .i64 d, .int .i64 h, .int .i64 mi, .int .i64 s] := by
  obtain ⟨cs, rfl, hsz⟩ := okWide_struct Tryz.underlying23 hv
  obtain ⟨cs⟩ := cs
  obtain ⟨fuel, hf⟩ := h
  have hl : cs.length = 6 := hsz.trans (by kernel_rfl)
  obtain ⟨y0, y1, y2, y3, y4, y5, m, h0, h1, h2, h3, h4, h5⟩ := trod_struct6 Tryz.underlying23 hf
  obtain ⟨c0, c1, c2, c3, c4, c5, rfl⟩ := list6 hl
  rw [show Tryz.prog.cellsOf 3 = 1 by kernel_rfl] at h0 h1 h2 h3 h4 h5
  obtain ⟨i0, e0, _⟩ := DataW.trod_int Tryz.underlying3 h0
  obtain ⟨i1, e1, _⟩ := DataW.trod_int Tryz.underlying3 h1
  obtain ⟨i2, e2, _⟩ := DataW.trod_int Tryz.underlying3 h2
  obtain ⟨i3, e3, _⟩ := DataW.trod_int Tryz.underlying3 h3
  obtain ⟨i4, e4, _⟩ := DataW.trod_int Tryz.underlying3 h4
  obtain ⟨i5, e5, _⟩ := DataW.trod_int Tryz.underlying3 h5
  obtain rfl : c0 = .int .i64 i0 := by simpa [Value.cells] using e0
  obtain rfl : c1 = .int .i64 i1 := by simpa [Value.cells] using e1
  obtain rfl : c2 = .int .i64 i2 := by simpa [Value.cells] using e2
  obtain rfl : c3 = .int .i64 i3 := by simpa [Value.cells] using e3
  obtain rfl : c4 = .int .i64 i4 := by simpa [Value.cells] using e4
  obtain rfl : c5 = .int .i64 i5 := by simpa [Value.cells] using e5
  exact ⟨i0, i1, i2, i3, i4, i5, rfl⟩
theorem read_int {v : Value} {d : DataW H} {p : List MemPlace} {r : Reach} {b0 : Nat} (hv : Value.okWide Tryz.prog W r b0 3 v) (h : DataW.Trod enc Tryz.prog W 0 spare held 3 v d p) :
    ∃ n : Int, v = .int .i64 n ∧ True := by
  obtain ⟨a, rfl, _⟩ := open_int Tryz.underlying3 hv h
  exact ⟨a, rfl, trivial⟩
end
end Go.Proofs.YtkhgeonlohafgaaGreatDoor.Core
namespace Go.Proofs.YtkhgeonlohafgaaGreatDoor.FnFewRow
open Go.ChangeShapes Go.WideShapes Go.ChangeAt Go.RowKit Go.Proofs.YtkhgeonlohafgaaGreatDoorW.PrintWords Go.Proofs.YtkhgeonlohafgaaGreatDoor.Core
theorem own : ownKnob Tryz.prog.godebug = none := by kernel_rfl
theorem laidOut : laidOutB Tryz.prog = true := by kernel_rfl
set_option maxRecDepth 100000 in
theorem lifted (os : Os) (started : os.Started) (H : Type) (enc : TypeId × Value → H) :
    ReturnsInHanded {} Tryz.checked os 5 .any (fun w args => (Rows.fnFewSpec.pre enc Tryz.prog Tryz.f5 Rows.fnFewRow.domain false w args ∧ laidMetH Tryz.prog Rows.fnFewRow.laid w) ∧ sizedMet enc Tryz.prog Tryz.f5 (OpenSpec.ofChange Rows.fnFewSpec) false w args)
      (Rows.fnFewSpec.post enc Tryz.prog Tryz.f5 false true false false) := by
  refine returnsInHanded_of_change_and (C := Tryz.checked) (X := fun w _ => laidMetH Tryz.prog Rows.fnFewRow.laid w) (fun _ _ _ hh h => h.of_heap hh) own started (by kernel_rfl) Tryz.func5
    (ChangeSpec.witness_shaped (enc := enc) (C := Tryz.checked) (os := os) (X := fun w _ => laidMetH Tryz.prog Rows.fnFewRow.laid w) false (World.laidAll Tryz.prog os Rows.fnFewRow.laid) #[.int .i64 0, .agg #[.int .i64 0, .int .i64 0, .int .i64 0, .int .i64 0, .int .i64 0, .int .i64 0]] 8 (World.laidAll_os _ _ _)
      (World.shaped_of_ZipB (by kernel_rfl) (by kernel_rfl)) (by kernel_rfl) (by kernel_rfl) (by kernel_rfl)
      (by rw [MakeChecks.laidMetH_plain _ _ _ (by kernel_rfl)]; exact laidMet_laidAll _ (by kernel_rfl) (by kernel_rfl))) ?_
  intro W base args ds gs before hval0 hW _ _ _ _
  have hval : ∀ (j : Nat) t v, Tryz.f5.params[j]? = some t → args[j]? = some v → Value.okWide Tryz.prog W .any base t v := hval0
  have hW' := hW
  obtain ⟨p, q, hA0, hV, rfl, _, _⟩ := hW
  have hA : DataW.TrodAll enc Tryz.prog W 0 (fun _ => true) true Tryz.f5.params.toList args.toList ds p := hA0
  rw [Tryz.params5] at hA hval
  obtain ⟨v0, vs0, d0, ds0, p0, q0, hargs, rfl, rfl, h0, r0⟩ := trodAll_cons hA
  obtain ⟨v1, vs1, d1, ds1, p1, q1, rfl, rfl, rfl, h1, r1⟩ := trodAll_cons r0
  obtain ⟨rfl, rfl, rfl⟩ := trodAll_nil r1
  obtain rfl : args = #[v0, v1] := by cases args; simp_all
  obtain ⟨rfl, rfl⟩ := trodVars_none hV
  obtain ⟨n0, rfl, _⟩ := read_int (hval 0 3 v0 rfl rfl) h0
  obtain ⟨y1, mo1, d'1, hh1, mi1, s1, rfl⟩ := read_moment (hval 1 23 v1 rfl rfl) h1
  have lt0 : ∀ x ∈ p0, x.block < W.heap.size := fun x hx => hW'.lt x (by simp [hx])
  have lt1 : ∀ x ∈ p1, x.block < W.heap.size := fun x hx => hW'.lt x (by simp [hx])
  clear hA0 hval0
  obtain ⟨k, hk⟩ := fnFew_pure n0 y1 mo1 d'1 hh1 mi1 s1
  refine (laws_FnFew.calls k n0 y1 mo1 d'1 hh1 mi1 s1 true W  hk).mono fun e W' ⟨he, bel⟩ => ?_
  subst he
  exact ⟨_, rfl, _, _, _, [], _, [], hW', trodAll_mk1 (shut_bool Tryz.underlying4 _), (trodAll_cons_mk (Below.trod laidOut (by kernel_rfl) (of_decide_eq_true (by kernel_rfl)) h0 bel lt0) (trodAll_cons_mk (Below.trod laidOut (by kernel_rfl) (of_decide_eq_true (by kernel_rfl)) h1 bel lt1) trodAll_mk0)), rfl, bel.frame _, fun h => by cases h⟩
theorem said : Rows.FnFewSaid :=
  OpenClaim.holds_of_wide 5 Tryz.f5 rfl rfl rfl rfl rfl rfl rfl ⟨rfl, rfl, rfl, rfl, rfl⟩ rfl rfl rfl rfl rfl (by kernel_rfl) Tryz.func5 (by kernel_rfl)
    (of_decide_eq_true (by kernel_rfl)) (by unfold Func.isWrapper; first | (rw [if_pos (by decide +kernel)]; kernel_rfl) | (rw [if_neg (by decide +kernel)]; exact ⟨rfl, rfl⟩))
    (fun os started H enc _ => lifted os started H enc)
theorem plain (f : FuncId) (fn : Func) (hf : Tryz.pinned.checked.prog.funcNamed Rows.fnFewRow.func = some f) (hfn : Tryz.pinned.checked.prog.funcs[f]? = some fn) :
    true = Tryz.pinned.checked.prog.looks [] ∧ ∀ (j : Nat) t, fn.params[j]? = some t → Tryz.pinned.checked.prog.wantsStandIn t = false := by
  obtain rfl : f = 5 := Option.some.inj ((show Tryz.prog.funcNamed Rows.fnFewRow.func = some 5 by kernel_rfl).symm.trans hf) |>.symm
  obtain rfl : fn = Tryz.f5 := (Option.some.inj (Tryz.func5.symm.trans hfn)).symm
  refine ⟨by kernel_rfl, fun j t ht => ?_⟩
  rw [Tryz.params5] at ht
  have hm : t ∈ [3, 23] := by simpa using Array.mem_of_getElem? ht
  have hall : ([3, 23].all fun u => !Tryz.prog.wantsStandIn u) = true := by kernel_rfl
  exact (show Tryz.prog.wantsStandIn t = false by simpa using List.all_eq_true.1 hall t hm)
theorem card : Rows.FnFewCardSaid :=
  Claim7.holds_tied_plain_at .later [] _ _ _ _ said (fun _ h => by cases h) (by kernel_rfl) (fun _ h => by cases h) fnFew_row_tie rfl ⟨rfl, rfl⟩ (by kernel_rfl) rfl plain (by kernel_rfl)
#print axioms card
end Go.Proofs.YtkhgeonlohafgaaGreatDoor.FnFewRow
namespace Go.Proofs.YtkhgeonlohafgaaGreatDoor
theorem fnFew_holds : Rows.FnFewCardSaid := FnFewRow.card
end Go.Proofs.YtkhgeonlohafgaaGreatDoor
