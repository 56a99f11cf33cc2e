/- Contracts and plain lemmas of this seat (part 6), merged by wip/merge2.py; what is proved stands in the claim's last text. -/
import Derived.Test.YtemgofomhjabpaaGreatDoorCQue1
import Derived.Test.YtemgofomhjabpaaGreatDoorCQue2
import Derived.Test.YtemgofomhjabpaaGreatDoorCQue3
import Derived.Test.YtemgofomhjabpaaGreatDoorCQue4
import Derived.Test.YtemgofomhjabpaaGreatDoorCQue5
import Derived.Shelf.Strings.Builder1
import Derived.Shelf.Strings.Builder2
import Derived.Shelf.Strings.OnBuilder
import Derived.Shelf.Small.Utf8
import Derived.Shelf.Strconv.Atoi
import Derived.Shelf.Strconv.AtoiErrFast
import Derived.Shelf.Strconv.ParseIntEmpty
import Derived.Shelf.Strconv.AtoiFail
import Derived.Shelf.LaysM
import Derived.Shelf.Strconv.Clone
import Derived.Shelf.Strconv.SyntaxError
import Derived.Shelf.LaysC
import Derived.Shelf.Strconv.ToError
import Derived.Shelf.Strconv.AtoiErr
import Derived.Shelf.Unicode.Latin
import Derived.Shelf.Unicode.DecodeSlow
import Derived.Shelf.Unicode.CaseLookup
import Derived.Shelf.Unicode.CaseConvert
import Derived.Shelf.Unicode.CaseTo
import Derived.Shelf.Unicode.CaseLaid
import Derived.Test.YtemgofomhjabpaaGreatDoorProg
import Derived.Deep.RegionHeld
namespace Go.Proofs.YtemgofomhjabpaaGreatDoor.Core
open Go.RowKit Go.Proofs.YtemgofomhjabpaaGreatDoorW.PrintWords Go.Proofs.YtemgofomhjabpaaGreatDoorW.PrintLast Go.Proofs.YtemgofomhjabpaaGreatDoorW.PrintMore
attribute [local go_sem] max2_int min2_int max_two min_two max_three min_three max_four min_four   -- for this text's walks alone
set_option linter.unusedVariables false
set_option linter.unusedSimpArgs false
def gronx_zzLiterals.l0 : Nat → ByteArray → List Int → Int → Option (ByteArray)
  | 0, _, _, _ => none
  | k + 1, x0, x3, x4 => if x4 < (x0.size : Int) then (if (wrap64 (x4 + 3)) ≤ (x0.size : Int) then (if 0 ≤ x4 then (if x4 ≤ (wrap64 (x4 + 3)) then ((gronx_literal.f (x0.extract (x4 : Int).toNat ((wrap64 (x4 + 3)) : Int).toNat)).bind fun t329 => (if t329.toList = ([] : List UInt8) then (if x3.length < 140737488355328 then (gronx_zzLiterals.l0 k x0 (x3 ++ [bt x0 x4]) (wrap64 (x4 + 1))) else (none)) else (if x3.length + t329.size < 140737488355328 then (gronx_zzLiterals.l0 k x0 (x3 ++ bytesOf t329) (wrap64 (x4 + 3))) else (none)))) else (none)) else (none)) else (if 0 ≤ x4 then (if x3.length < 140737488355328 then (gronx_zzLiterals.l0 k x0 (x3 ++ [bt x0 x4]) (wrap64 (x4 + 1))) else (none)) else (none))) else (some (strOfNums x3))
def gronx_zzLiterals.f (k : Nat) (a0 : ByteArray) : Option (ByteArray) := gronx_zzLiterals.l0 k a0 ([] : List Int) 0
set_option maxHeartbeats 8000000 in
set_option maxRecDepth 100000 in
theorem gronx_zzLiterals.calls (k : Nat) (a0 : ByteArray) (r : ByteArray) (w : World) (h : gronx_zzLiterals.f k a0 = some r) :
    Calls Tryz.prog 60 #[.string a0] w fun e w' => e = .returned (.string r) ∧ Below w.heap.size w w' := by
  have HB := Aside0.mk (Below.refl w.heap.size w)
  have H : (gronx_zzLiterals.l0 k a0 ([] : List Int) 0) = some r := h
  clear h
  have H' := Aside0.mk H
  clear H
  go_enter Tryz.func60, Tryz.ntmps60
  go_wp2
  go_loopg [3, 4] k (fun kq v3 v4 w' => ∃ (x3_1 : List Int) (x4_1 : Int), v4 = .int .i64 x4_1 ∧ Aside0 (gronx_zzLiterals.l0 kq a0 x3_1 x4_1 = some r) ∧ Aside0 (kq ≤ k) ∧ Aside0 (Kd.R (Kd.int .u8) 5 w' w.heap.size (fun _ => True) v3 x3_1) ∧ Aside0 (Below w.heap.size w w'))
  case atStart => exact ⟨(([] : List Int)), (0), (by first | rfl | (simp; done) | (simp [*]; done)), H', ⟨Nat.le_refl _⟩, ⟨by first | exact Kd.R_nil _ _ _ _ _ | exact Kd.N_nil _ _ _ _ _ | exact Kd.V_nil _ _ _ _ _ | exact Kd.Q_nil _ _ _ _ _ | exact Kd.S_nil _ _ _ _ _⟩, ⟨by repeat (first | (with_reducible first | exact HB.out | apply below_alloc | apply pw_below_drewN | apply below_drew1) | exact HB.out)⟩⟩
  case round =>
    clear H'
    obtain ⟨x3_1, x4_1, rfl, HA, HK1, HO_3, HB⟩ := hrel
    cases gk with
    | zero => exact absurd HA.out (by simp [gronx_zzLiterals.l0])
    | succ k1 =>
      have H := HA.out
      clear HA
      simp only [gronx_zzLiterals.l0] at H
      by_cases c2 : x4_1 < (a0.size : Int)
      · rw [if_pos c2] at H
        have c2b0 : decide (x4_1 < (a0.size : Int)) = true := decide_eq_true c2
        clear c2
        by_cases c3 : (wrap64 (x4_1 + 3)) ≤ (a0.size : Int)
        · rw [if_pos c3] at H
          have c3b0 : decide ((wrap64 (x4_1 + 3)) ≤ (a0.size : Int)) = true := decide_eq_true c3
          clear c3
          by_cases c4 : 0 ≤ x4_1
          · rw [if_pos c4] at H
            have c4b0 := eq_true c4
            have c4b1 : decide (0 ≤ x4_1) = true := decide_eq_true c4
            clear c4
            by_cases c5 : x4_1 ≤ (wrap64 (x4_1 + 3))
            · rw [if_pos c5] at H
              have c5b0 := eq_true c5
              have c5b1 : decide (x4_1 ≤ (wrap64 (x4_1 + 3))) = true := decide_eq_true c5
              have c6b0 := eq_true (of_decide_eq_true (by first | (with_reducible assumption) | assumption) : (wrap64 (x4_1 + 3)) ≤ (a0.size : Int))
              replace H := Option.bind_eq_some_iff.mp H
              obtain ⟨t329, A70, H⟩ := H
              replace H : (if t329.toList = ([] : List UInt8) then (if x3_1.length < 140737488355328 then (gronx_zzLiterals.l0 k1 a0 (x3_1 ++ [bt a0 x4_1]) (wrap64 (x4_1 + 1))) else (none)) else (if x3_1.length + t329.size < 140737488355328 then (gronx_zzLiterals.l0 k1 a0 (x3_1 ++ bytesOf t329) (wrap64 (x4_1 + 3))) else (none))) = some r := H
              have A7 := Aside0.mk A70
              clear A70
              by_cases c8 : t329.toList = ([] : List UInt8)
              · rw [if_pos c8] at H
                have c8b0 : (t329.toList == ([] : List UInt8)) = true := beq_iff_eq.mpr c8
                have c8b1 : (t329.toList != ([] : List UInt8)) = false := bne_eq_false_iff_eq.mpr c8
                clear c8
                by_cases c10 : x3_1.length < 140737488355328
                · rw [if_pos c10] at H
                  have LMc10 := Aside0.mk c10
                  clear c10
                  obtain ⟨y330, hy330⟩ : ∃ y_ : List Int, y_ = (x3_1 ++ [bt a0 x4_1]) := ⟨_, rfl⟩
                  replace H : (gronx_zzLiterals.l0 k1 a0 y330 (wrap64 (x4_1 + 1))) = some r := by first | (rw [hy330]; with_reducible exact H) | (have H2_ := (Option.bind_some _ _).symm.trans H; rw [hy330]; with_reducible exact H2_) | (have H2_ := (Option.bind_some _ _).symm.trans H; with_reducible exact H2_) | with_reducible exact H | (rw [hy330]; exact H) | exact H
                  have Ny330 := Aside0.mk hy330
                  clear hy330
                  have H' := Aside0.mk H
                  clear H
                  go_wp2_with (first | ((with_reducible refine gate_callee (f := 73) rfl ?_); refine goesL_ (some 20) rfl rfl Tryz.func73 (by kernel_rfl) rfl #[.string (a0.extract (x4_1 : Int).toNat ((wrap64 (x4_1 + 3)) : Int).toNat)] rfl (by (try simp only [List.map_toArray, List.map_cons, List.map_nil]); first | done | rfl | (simp only [List.length_drop, List.length_take]; rfl)) ?_; (with_reducible refine (gronx_literal.calls (a0.extract (x4_1 : Int).toNat ((wrap64 (x4_1 + 3)) : Int).toNat) t329 _ A7.out).mono ?_); rintro e w' ⟨rfl, ⟨nd, rfl⟩⟩; refine ⟨_, rfl, ?_⟩; have p9 : 0 ≤ (x4_1 : Int) := of_decide_eq_true (by first | (with_reducible assumption) | assumption); have q9 : x4_1 < (a0.size : Int) := of_decide_eq_true (by first | (with_reducible assumption) | assumption); have hx9 := bt_at a0 x4_1; replace p9 := eq_true p9; replace q9 := eq_true q9) | ((with_reducible refine gate_builtin (b := .append) (xs := #[.tmp 28, .tmp 32]) rfl ?_); at_builtin; refine Kd.R_append (Kd.int .u8) (w0 := w) w.heap.size rfl (.tmp 28) (.tmp 32) 137 5 (.int .u8 0) 1 rfl Tryz.underlying137 info5 rfl (by decide) (by omega) u3 x3_1 (bt a0 x4_1) [.int .u8 (bt a0 x4_1)] (fun _ => True) (fun _ => False) rfl rfl ?aP (fun _ hk => hk.elim) ?aF ?aO ?aB ?aS ?aL ?_; (case aP => exact rfl); (case aB => exact (by repeat (first | (with_reducible first | exact HB.out | apply below_alloc | apply pw_below_drewN | apply below_drew1) | exact HB.out))); (case aF => exact (fun _ _ => trivial)); (case aO => exact (by (with_reducible repeat (first | apply Kd.R_alloc | apply Kd.R_drewN | apply Kd.R_drew)); exact HO_3.out)); (case aS => exact (below_size (by repeat (first | (with_reducible first | exact HB.out | apply below_alloc | apply pw_below_drewN | apply below_drew1) | exact HB.out)))); (case aL => have := LMc10.out; omega); intro v331 w11 ho hb hg hat; rw [← Ny330.out] at ho; have n0_ := Aside0.mk (hb); have n1_ := Aside0.mk (ho); clear HB; clear HO_3; have HB := n0_; have HO332 := n1_; clear n0_ n1_; clear ho hb hg hat))
                  go_roundg k1
                  case measure => have := HK1.out; omega
                  case rel => exact ⟨(y330), (wrap64 (x4_1 + 1)), (by first | rfl | (simp; done) | (simp [*]; done)), H', ⟨by have := HK1.out; omega⟩, ⟨by (with_reducible repeat (first | apply Kd.R_alloc | apply Kd.R_drewN | apply Kd.R_drew)); exact HO332.out⟩, ⟨by repeat (first | (with_reducible first | exact HB.out | apply below_alloc | apply pw_below_drewN | apply below_drew1) | exact HB.out)⟩⟩
                · rw [if_neg c10] at H
                  exact absurd H (by simp)
              · rw [if_neg c8] at H
                have c8b0 : (t329.toList == ([] : List UInt8)) = false := beq_eq_false_iff_ne.mpr c8
                have c8b1 : (t329.toList != ([] : List UInt8)) = true := bne_iff_ne.mpr c8
                by_cases c12 : x3_1.length + t329.size < 140737488355328
                · rw [if_pos c12] at H
                  have LMc12 := Aside0.mk c12
                  clear c12
                  obtain ⟨y333, hy333⟩ : ∃ y_ : List Int, y_ = (x3_1 ++ bytesOf t329) := ⟨_, rfl⟩
                  replace H : (gronx_zzLiterals.l0 k1 a0 y333 (wrap64 (x4_1 + 3))) = some r := by first | (rw [hy333]; with_reducible exact H) | (have H2_ := (Option.bind_some _ _).symm.trans H; rw [hy333]; with_reducible exact H2_) | (have H2_ := (Option.bind_some _ _).symm.trans H; with_reducible exact H2_) | with_reducible exact H | (rw [hy333]; exact H) | exact H
                  have Ny333 := Aside0.mk hy333
                  clear hy333
                  have H' := Aside0.mk H
                  clear H
                  go_wp2_with (first | ((with_reducible refine gate_callee (f := 73) rfl ?_); refine goesL_ (some 20) rfl rfl Tryz.func73 (by kernel_rfl) rfl #[.string (a0.extract (x4_1 : Int).toNat ((wrap64 (x4_1 + 3)) : Int).toNat)] rfl (by (try simp only [List.map_toArray, List.map_cons, List.map_nil]); first | done | rfl | (simp only [List.length_drop, List.length_take]; rfl)) ?_; (with_reducible refine (gronx_literal.calls (a0.extract (x4_1 : Int).toNat ((wrap64 (x4_1 + 3)) : Int).toNat) t329 _ A7.out).mono ?_); rintro e w' ⟨rfl, ⟨nd, rfl⟩⟩; refine ⟨_, rfl, ?_⟩) | (at_builtin; refine print_append_str (w0 := w) w.heap.size rfl (.tmp 23) _ 137 9 5 rfl Tryz.underlying137 Tryz.underlying9 info5 u3 x3_1 t329 rfl rfl ?aO ?aB ?aS ?aL ?_; (case aB => exact (by repeat (first | (with_reducible first | exact HB.out | apply below_alloc | apply pw_below_drewN | apply below_drew1) | exact HB.out))); (case aO => exact (Kd.own_of_R (by (with_reducible repeat (first | apply Kd.R_alloc | apply Kd.R_drewN | apply Kd.R_drew)); exact HO_3.out))); (case aS => exact (below_size (by repeat (first | (with_reducible first | exact HB.out | apply below_alloc | apply pw_below_drewN | apply below_drew1) | exact HB.out)))); (case aL => have := LMc12.out; omega); intro v334 w13 ho0 hb hg; have ho := Kd.R_of_own (h1 := fun _ => rfl) (ok := fun _ => True) ho0 (fun _ _ => trivial); clear ho0; have hat := True.intro; rw [← Ny333.out] at ho; change Kd.R (Kd.int .u8) 5 w13 w.heap.size (fun _ => True) v334 y333 at ho; have n0_ := Aside0.mk (hb); have n1_ := Aside0.mk (ho); clear HB; clear HO_3; have HB := n0_; have HO335 := n1_; clear n0_ n1_; clear ho hb hg hat))
                  go_roundg k1
                  case measure => have := HK1.out; omega
                  case rel => exact ⟨(y333), (wrap64 (x4_1 + 3)), (by first | rfl | (simp; done) | (simp [*]; done)), H', ⟨by have := HK1.out; omega⟩, ⟨by (with_reducible repeat (first | apply Kd.R_alloc | apply Kd.R_drewN | apply Kd.R_drew)); exact HO335.out⟩, ⟨by repeat (first | (with_reducible first | exact HB.out | apply below_alloc | apply pw_below_drewN | apply below_drew1) | exact HB.out)⟩⟩
                · rw [if_neg c12] at H
                  exact absurd H (by simp)
            · rw [if_neg c5] at H
              exact absurd H (by simp)
          · rw [if_neg c4] at H
            exact absurd H (by simp)
        · rw [if_neg c3] at H
          have c3b0 : decide ((wrap64 (x4_1 + 3)) ≤ (a0.size : Int)) = false := decide_eq_false c3
          clear c3
          by_cases c14 : 0 ≤ x4_1
          · rw [if_pos c14] at H
            have c14b0 : decide (0 ≤ x4_1) = true := decide_eq_true c14
            clear c14
            by_cases c16 : x3_1.length < 140737488355328
            · rw [if_pos c16] at H
              have LMc16 := Aside0.mk c16
              clear c16
              obtain ⟨y336, hy336⟩ : ∃ y_ : List Int, y_ = (x3_1 ++ [bt a0 x4_1]) := ⟨_, rfl⟩
              replace H : (gronx_zzLiterals.l0 k1 a0 y336 (wrap64 (x4_1 + 1))) = some r := by first | (rw [hy336]; with_reducible exact H) | (have H2_ := (Option.bind_some _ _).symm.trans H; rw [hy336]; with_reducible exact H2_) | (have H2_ := (Option.bind_some _ _).symm.trans H; with_reducible exact H2_) | with_reducible exact H | (rw [hy336]; exact H) | exact H
              have Ny336 := Aside0.mk hy336
              clear hy336
              have H' := Aside0.mk H
              clear H
              have p15 : 0 ≤ (x4_1 : Int) := of_decide_eq_true (by first | (with_reducible assumption) | assumption)
              have q15 : x4_1 < (a0.size : Int) := of_decide_eq_true (by first | (with_reducible assumption) | assumption)
              have hx15 := bt_at a0 x4_1
              replace p15 := eq_true p15
              replace q15 := eq_true q15
              go_wp2_with (first | ((with_reducible refine gate_builtin (b := .append) (xs := #[.tmp 28, .tmp 32]) rfl ?_); at_builtin; refine Kd.R_append (Kd.int .u8) (w0 := w) w.heap.size rfl (.tmp 28) (.tmp 32) 137 5 (.int .u8 0) 1 rfl Tryz.underlying137 info5 rfl (by decide) (by omega) u3 x3_1 (bt a0 x4_1) [.int .u8 (bt a0 x4_1)] (fun _ => True) (fun _ => False) rfl rfl ?aP (fun _ hk => hk.elim) ?aF ?aO ?aB ?aS ?aL ?_; (case aP => exact rfl); (case aB => exact (by repeat (first | (with_reducible first | exact HB.out | apply below_alloc | apply pw_below_drewN | apply below_drew1) | exact HB.out))); (case aF => exact (fun _ _ => trivial)); (case aO => exact (by (with_reducible repeat (first | apply Kd.R_alloc | apply Kd.R_drewN | apply Kd.R_drew)); exact HO_3.out)); (case aS => exact (below_size (by repeat (first | (with_reducible first | exact HB.out | apply below_alloc | apply pw_below_drewN | apply below_drew1) | exact HB.out)))); (case aL => have := LMc16.out; omega); intro v337 w17 ho hb hg hat; rw [← Ny336.out] at ho; have n0_ := Aside0.mk (hb); have n1_ := Aside0.mk (ho); clear HB; clear HO_3; have HB := n0_; have HO338 := n1_; clear n0_ n1_; clear ho hb hg hat))
              go_roundg k1
              case measure => have := HK1.out; omega
              case rel => exact ⟨(y336), (wrap64 (x4_1 + 1)), (by first | rfl | (simp; done) | (simp [*]; done)), H', ⟨by have := HK1.out; omega⟩, ⟨by (with_reducible repeat (first | apply Kd.R_alloc | apply Kd.R_drewN | apply Kd.R_drew)); exact HO338.out⟩, ⟨by repeat (first | (with_reducible first | exact HB.out | apply below_alloc | apply pw_below_drewN | apply below_drew1) | exact HB.out)⟩⟩
            · rw [if_neg c16] at H
              exact absurd H (by simp)
          · rw [if_neg c14] at H
            exact absurd H (by simp)
      · rw [if_neg c2] at H
        have c2b0 : decide (x4_1 < (a0.size : Int)) = false := decide_eq_false c2
        clear c2
        obtain rfl := Option.some.inj H
        have hcv18 := own_string (P := Tryz.prog) Tryz.underlying137 Tryz.underlying5 Tryz.underlying9 (Kd.own_of_R HO_3.out)
        go_wp2
        go_ret
        exact ⟨by first | rfl | (simp [errW_none, errW_some] <;> rfl) | (simp [*, errW_none, errW_some] <;> rfl), by repeat (first | (with_reducible first | exact HB.out | apply below_alloc | apply pw_below_drewN | apply below_drew1) | exact HB.out)⟩
end Go.Proofs.YtemgofomhjabpaaGreatDoor.Core
namespace Go.Proofs.YtemgofomhjabpaaGreatDoor.Core
open Go.RowKit Go.Proofs.YtemgofomhjabpaaGreatDoorW.PrintWords Go.Proofs.YtemgofomhjabpaaGreatDoorW.PrintLast Go.Proofs.YtemgofomhjabpaaGreatDoorW.PrintMore
attribute [local go_sem] max2_int min2_int max_two min_two max_three min_three max_four min_four   -- for this text's walks alone
set_option linter.unusedVariables false
set_option linter.unusedSimpArgs false
def gronx_zzIndex.l0 : Nat → ByteArray → ByteArray → Int → Option (Int)
  | 0, _, _, _ => none
  | k + 1, x0, x1, x5 => if (wrap64 (x5 + (x1.size : Int))) ≤ (x0.size : Int) then (if 0 ≤ x5 then (if x5 ≤ (wrap64 (x5 + (x1.size : Int))) then (if (x0.extract (x5 : Int).toNat ((wrap64 (x5 + (x1.size : Int))) : Int).toNat).toList = x1.toList then (some x5) else (gronx_zzIndex.l0 k x0 x1 (wrap64 (x5 + 1)))) else (none)) else (none)) else (some (-1))
def gronx_zzIndex.f (k : Nat) (a0 : ByteArray) (a1 : ByteArray) : Option (Int) := gronx_zzIndex.l0 k a0 a1 0
set_option maxHeartbeats 8000000 in
set_option maxRecDepth 100000 in
theorem gronx_zzIndex.calls (k : Nat) (a0 : ByteArray) (a1 : ByteArray) (r : Int) (w : World) (h : gronx_zzIndex.f k a0 a1 = some r) :
    Calls Tryz.prog 50 #[.string a0, .string a1] w fun e w' => e = .returned (.int .i64 r) ∧ Drawn0 w w' := by
  have H : (gronx_zzIndex.l0 k a0 a1 0) = some r := h
  clear h
  have H' := Aside0.mk H
  clear H
  go_enter Tryz.func50, Tryz.ntmps50
  go_wp2
  go_loopg [5] k (fun kq v5 w' => ∃ (x5_1 : Int), v5 = .int .i64 x5_1 ∧ Aside0 (gronx_zzIndex.l0 kq a0 a1 x5_1 = some r) ∧ Aside0 (kq ≤ k) ∧ Drawn0 w w')
  case atStart => exact ⟨(0), (by first | rfl | (simp; done) | (simp [*]; done)), H', ⟨Nat.le_refl _⟩, by repeat (first | exact Drawn0.refl _ | apply Drawn0.step)⟩
  case round =>
    clear H'
    try clear p2
    obtain ⟨x5_1, rfl, HA, HK1, ⟨m1, rfl⟩⟩ := hrel
    cases gk with
    | zero => exact absurd HA.out (by simp [gronx_zzIndex.l0])
    | succ k1 =>
      have H := HA.out
      clear HA
      simp only [gronx_zzIndex.l0] at H
      by_cases c3 : (wrap64 (x5_1 + (a1.size : Int))) ≤ (a0.size : Int)
      · rw [if_pos c3] at H
        have c3b0 : decide ((wrap64 (x5_1 + (a1.size : Int))) ≤ (a0.size : Int)) = true := decide_eq_true c3
        clear c3
        by_cases c4 : 0 ≤ x5_1
        · rw [if_pos c4] at H
          have c4b0 := eq_true c4
          have c4b1 : decide (0 ≤ x5_1) = true := decide_eq_true c4
          clear c4
          by_cases c5 : x5_1 ≤ (wrap64 (x5_1 + (a1.size : Int)))
          · rw [if_pos c5] at H
            have c5b0 := eq_true c5
            have c5b1 : decide (x5_1 ≤ (wrap64 (x5_1 + (a1.size : Int)))) = true := decide_eq_true c5
            have c6b0 := eq_true (of_decide_eq_true (by first | (with_reducible assumption) | assumption) : (wrap64 (x5_1 + (a1.size : Int))) ≤ (a0.size : Int))
            by_cases c7 : (a0.extract (x5_1 : Int).toNat ((wrap64 (x5_1 + (a1.size : Int))) : Int).toNat).toList = a1.toList
            · rw [if_pos c7] at H
              have c7b0 : ((a0.extract (x5_1 : Int).toNat ((wrap64 (x5_1 + (a1.size : Int))) : Int).toNat).toList == a1.toList) = true := beq_iff_eq.mpr c7
              have c7b1 : ((a0.extract (x5_1 : Int).toNat ((wrap64 (x5_1 + (a1.size : Int))) : Int).toNat).toList != a1.toList) = false := bne_eq_false_iff_eq.mpr c7
              clear c7
              obtain rfl := Option.some.inj H
              go_wp2
              go_ret
              exact ⟨by first | rfl | (simp; done) | (simp [*]; done), by repeat (first | exact Drawn0.refl _ | apply Drawn0.step)⟩
            · rw [if_neg c7] at H
              have c7b0 : ((a0.extract (x5_1 : Int).toNat ((wrap64 (x5_1 + (a1.size : Int))) : Int).toNat).toList == a1.toList) = false := beq_eq_false_iff_ne.mpr c7
              have c7b1 : ((a0.extract (x5_1 : Int).toNat ((wrap64 (x5_1 + (a1.size : Int))) : Int).toNat).toList != a1.toList) = true := bne_iff_ne.mpr c7
              have H' := Aside0.mk H
              clear H
              go_wp2
              go_roundg k1
              case measure => have := HK1.out; omega
              case rel => exact ⟨(wrap64 (x5_1 + 1)), (by first | rfl | (simp; done) | (simp [*]; done)), H', ⟨by have := HK1.out; omega⟩, by repeat (first | exact Drawn0.refl _ | apply Drawn0.step)⟩
          · rw [if_neg c5] at H
            exact absurd H (by simp)
        · rw [if_neg c4] at H
          exact absurd H (by simp)
      · rw [if_neg c3] at H
        have c3b0 : decide ((wrap64 (x5_1 + (a1.size : Int))) ≤ (a0.size : Int)) = false := decide_eq_false c3
        clear c3
        obtain rfl := Option.some.inj H
        go_wp2
        go_ret
        exact ⟨by first | rfl | (simp; done) | (simp [*]; done), by repeat (first | exact Drawn0.refl _ | apply Drawn0.step)⟩
end Go.Proofs.YtemgofomhjabpaaGreatDoor.Core
namespace Go.Proofs.YtemgofomhjabpaaGreatDoor.Core
open Go.RowKit Go.Proofs.YtemgofomhjabpaaGreatDoorW.PrintWords Go.Proofs.YtemgofomhjabpaaGreatDoorW.PrintLast Go.Proofs.YtemgofomhjabpaaGreatDoorW.PrintMore
attribute [local go_sem] max2_int min2_int max_two min_two max_three min_three max_four min_four   -- for this text's walks alone
set_option linter.unusedVariables false
set_option linter.unusedSimpArgs false
def gronx_zzSplit.l0 : Nat → ByteArray → ByteArray → List ByteArray → Option (List ByteArray)
  | 0, _, _, _ => none
  | k + 1, x0, x1, x5 => (gronx_zzIndex.f k x0 x1).bind fun t339 => (if t339 < 0 then (if x5.length < 8796093022208 then (some (x5 ++ [x0])) else (none)) else (if 0 ≤ t339 then (if t339 ≤ (x0.size : Int) then (if x5.length < 8796093022208 then (if 0 ≤ (wrap64 (t339 + (x1.size : Int))) then (if (wrap64 (t339 + (x1.size : Int))) ≤ (x0.size : Int) then (gronx_zzSplit.l0 k (x0.extract ((wrap64 (t339 + (x1.size : Int))) : Int).toNat x0.size) x1 (x5 ++ [x0.extract 0 (t339 : Int).toNat])) else (none)) else (none)) else (none)) else (none)) else (none)))
def gronx_zzSplit.f (k : Nat) (a0 : ByteArray) (a1 : ByteArray) : Option (List ByteArray) := gronx_zzSplit.l0 k a0 a1 ([] : List ByteArray)
set_option maxHeartbeats 8000000 in
set_option maxRecDepth 100000 in
theorem gronx_zzSplit.calls (k : Nat) (a0 : ByteArray) (a1 : ByteArray) (r : List ByteArray) (w : World) (h : gronx_zzSplit.f k a0 a1 = some r) :
    Calls Tryz.prog 62 #[.string a0, .string a1] w fun e w' => ∃ v0_ : Value, e = .returned (v0_) ∧ Kd.R Kd.string 9 w' w.heap.size (fun _ => True) v0_ r ∧ Below w.heap.size w w' := by
  have HB := Aside0.mk (Below.refl w.heap.size w)
  have H : (gronx_zzSplit.l0 k a0 a1 ([] : List ByteArray)) = some r := h
  clear h
  have H' := Aside0.mk H
  clear H
  go_enter Tryz.func62, Tryz.ntmps62
  go_wp2
  go_loopg [0, 5] k (fun kq v0 v5 w' => ∃ (x0_1 : ByteArray) (x5_1 : List ByteArray), v0 = .string x0_1 ∧ Aside0 (gronx_zzSplit.l0 kq x0_1 a1 x5_1 = some r) ∧ Aside0 (kq ≤ k) ∧ Aside0 (Kd.R Kd.string 9 w' w.heap.size (fun _ => True) v5 x5_1) ∧ Aside0 (Below w.heap.size w w'))
  case atStart => exact ⟨(a0), (([] : List ByteArray)), (by first | rfl | (simp; done) | (simp [*]; done)), H', ⟨Nat.le_refl _⟩, ⟨by first | exact Kd.R_nil _ _ _ _ _ | exact Kd.N_nil _ _ _ _ _ | exact Kd.V_nil _ _ _ _ _ | exact Kd.Q_nil _ _ _ _ _ | exact Kd.S_nil _ _ _ _ _⟩, ⟨by repeat (first | (with_reducible first | exact HB.out | apply below_alloc | apply pw_below_drewN | apply below_drew1) | exact HB.out)⟩⟩
  case round =>
    clear H'
    try clear p2
    obtain ⟨x0_1, x5_1, rfl, HA, HK1, HO_5, HB⟩ := hrel
    cases gk with
    | zero => exact absurd HA.out (by simp [gronx_zzSplit.l0])
    | succ k1 =>
      have H := HA.out
      clear HA
      simp only [gronx_zzSplit.l0] at H
      replace H := Option.bind_eq_some_iff.mp H
      obtain ⟨t339, A30, H⟩ := H
      replace H : (if t339 < 0 then (if x5_1.length < 8796093022208 then (some (x5_1 ++ [x0_1])) else (none)) else (if 0 ≤ t339 then (if t339 ≤ (x0_1.size : Int) then (if x5_1.length < 8796093022208 then (if 0 ≤ (wrap64 (t339 + (a1.size : Int))) then (if (wrap64 (t339 + (a1.size : Int))) ≤ (x0_1.size : Int) then (gronx_zzSplit.l0 k1 (x0_1.extract ((wrap64 (t339 + (a1.size : Int))) : Int).toNat x0_1.size) a1 (x5_1 ++ [x0_1.extract 0 (t339 : Int).toNat])) else (none)) else (none)) else (none)) else (none)) else (none))) = some r := H
      have A3 := Aside0.mk A30
      clear A30
      by_cases c4 : t339 < 0
      · rw [if_pos c4] at H
        have c4b0 : decide (t339 < 0) = true := decide_eq_true c4
        clear c4
        by_cases c5 : x5_1.length < 8796093022208
        · rw [if_pos c5] at H
          have LMc5 := Aside0.mk c5
          clear c5
          obtain ⟨y340, hy340⟩ : ∃ y_ : List ByteArray, y_ = (x5_1 ++ [x0_1]) := ⟨_, rfl⟩
          replace H : (some y340) = some r := by first | (rw [hy340]; with_reducible exact H) | (have H2_ := (Option.bind_some _ _).symm.trans H; rw [hy340]; with_reducible exact H2_) | (have H2_ := (Option.bind_some _ _).symm.trans H; with_reducible exact H2_) | with_reducible exact H | (rw [hy340]; exact H) | exact H
          have Ny340 := Aside0.mk hy340
          clear hy340
          obtain rfl := Option.some.inj H
          go_wp2_with (first | ((with_reducible refine gate_callee (f := 50) rfl ?_); refine goesL_ (some 9) rfl rfl Tryz.func50 (by kernel_rfl) rfl #[.string x0_1, .string a1] rfl (by (try simp only [List.map_toArray, List.map_cons, List.map_nil]); first | done | rfl | (simp only [List.length_drop, List.length_take]; rfl)) ?_; (with_reducible refine (gronx_zzIndex.calls k1 x0_1 a1 t339 _ A3.out).mono ?_); rintro e w' ⟨rfl, ⟨nd, rfl⟩⟩; refine ⟨_, rfl, ?_⟩) | ((with_reducible refine gate_builtin (b := .append) (xs := #[.tmp 12, .tmp 14]) rfl ?_); at_builtin; refine Kd.R_append Kd.string (w0 := w) w.heap.size rfl (.tmp 12) (.tmp 14) 55 9 (.string ⟨#[]⟩) 16 rfl Tryz.underlying55 info9 rfl (by decide) (by omega) u5 x5_1 x0_1 [.string x0_1] (fun _ => True) (fun _ => False) rfl rfl ?aP (fun _ hk => hk.elim) ?aF ?aO ?aB ?aS ?aL ?_; (case aP => exact rfl); (case aB => exact (by repeat (first | (with_reducible first | exact HB.out | apply below_alloc | apply pw_below_drewN | apply below_drew1) | exact HB.out))); (case aF => exact (fun _ _ => trivial)); (case aO => exact (by (with_reducible repeat (first | apply Kd.R_alloc | apply Kd.R_drewN | apply Kd.R_drew)); exact HO_5.out)); (case aS => exact (below_size (by repeat (first | (with_reducible first | exact HB.out | apply below_alloc | apply pw_below_drewN | apply below_drew1) | exact HB.out)))); (case aL => have := LMc5.out; omega); intro v341 w6 ho hb hg hat; rw [← Ny340.out] at ho; have n0_ := Aside0.mk (hb); have n1_ := Aside0.mk (ho); clear HB; clear HO_5; have HB := n0_; have HO342 := n1_; clear n0_ n1_; clear ho hb hg hat))
          go_ret
          exact ⟨_, by first | rfl | (simp [errW_none, errW_some] <;> rfl) | (simp [*, errW_none, errW_some] <;> rfl), by (with_reducible repeat (first | apply Kd.R_alloc | apply Kd.R_drewN | apply Kd.R_drew)); exact HO342.out, by repeat (first | (with_reducible first | exact HB.out | apply below_alloc | apply pw_below_drewN | apply below_drew1) | exact HB.out)⟩
        · rw [if_neg c5] at H
          exact absurd H (by simp)
      · rw [if_neg c4] at H
        have c4b0 : decide (t339 < 0) = false := decide_eq_false c4
        clear c4
        by_cases c7 : 0 ≤ t339
        · rw [if_pos c7] at H
          have c7b0 := eq_true c7
          have c7b1 : decide (0 ≤ t339) = true := decide_eq_true c7
          clear c7
          by_cases c8 : t339 ≤ (x0_1.size : Int)
          · rw [if_pos c8] at H
            have c8b0 := eq_true c8
            have c8b1 : decide (t339 ≤ (x0_1.size : Int)) = true := decide_eq_true c8
            clear c8
            by_cases c9 : x5_1.length < 8796093022208
            · rw [if_pos c9] at H
              have LMc9 := Aside0.mk c9
              clear c9
              obtain ⟨y343, hy343⟩ : ∃ y_ : List ByteArray, y_ = (x5_1 ++ [x0_1.extract 0 (t339 : Int).toNat]) := ⟨_, rfl⟩
              replace H : (if 0 ≤ (wrap64 (t339 + (a1.size : Int))) then (if (wrap64 (t339 + (a1.size : Int))) ≤ (x0_1.size : Int) then (gronx_zzSplit.l0 k1 (x0_1.extract ((wrap64 (t339 + (a1.size : Int))) : Int).toNat x0_1.size) a1 y343) else (none)) else (none)) = some r := by first | (rw [hy343]; with_reducible exact H) | (have H2_ := (Option.bind_some _ _).symm.trans H; rw [hy343]; with_reducible exact H2_) | (have H2_ := (Option.bind_some _ _).symm.trans H; with_reducible exact H2_) | with_reducible exact H | (rw [hy343]; exact H) | exact H
              have Ny343 := Aside0.mk hy343
              clear hy343
              obtain ⟨ji10, hji10⟩ : ∃ j_ : Int, (wrap64 (t339 + (a1.size : Int))) = j_ := ⟨_, rfl⟩
              replace H : (if 0 ≤ (ji10) then (if (ji10) ≤ (x0_1.size : Int) then (gronx_zzSplit.l0 k1 (x0_1.extract ((ji10) : Int).toNat x0_1.size) a1 y343) else (none)) else (none)) = some r := by first | (rw [hji10] at H; exact H) | (simp only [hji10] at H ⊢; exact H)
              (try rw [hji10] at A3)
              have hji10w : (IntKind.i64.wrap (t339 + (a1.size : Int))) = ji10 := (i64_w _).trans hji10
              by_cases c11 : 0 ≤ (ji10)
              · rw [if_pos c11] at H
                have c11b0 := eq_true c11
                have c11b1 : decide (0 ≤ (ji10)) = true := decide_eq_true c11
                clear c11
                by_cases c12 : (ji10) ≤ (x0_1.size : Int)
                · rw [if_pos c12] at H
                  have c12b0 := eq_true c12
                  have c12b1 : decide ((ji10) ≤ (x0_1.size : Int)) = true := decide_eq_true c12
                  clear c12
                  have H' := Aside0.mk H
                  clear H
                  go_wp2_with (first | ((with_reducible refine gate_callee (f := 50) rfl ?_); refine goesL_ (some 9) rfl rfl Tryz.func50 (by kernel_rfl) rfl #[.string x0_1, .string a1] rfl (by (try simp only [List.map_toArray, List.map_cons, List.map_nil]); first | done | rfl | (simp only [List.length_drop, List.length_take]; rfl)) ?_; (with_reducible refine (gronx_zzIndex.calls k1 x0_1 a1 t339 _ A3.out).mono ?_); rintro e w' ⟨rfl, ⟨nd, rfl⟩⟩; refine ⟨_, rfl, ?_⟩) | ((with_reducible refine gate_builtin (b := .append) (xs := #[.tmp 16, .tmp 20]) rfl ?_); at_builtin; refine Kd.R_append Kd.string (w0 := w) w.heap.size rfl (.tmp 16) (.tmp 20) 55 9 (.string ⟨#[]⟩) 16 rfl Tryz.underlying55 info9 rfl (by decide) (by omega) u5 x5_1 (x0_1.extract 0 (t339 : Int).toNat) [.string (x0_1.extract 0 (t339 : Int).toNat)] (fun _ => True) (fun _ => False) rfl rfl ?aP (fun _ hk => hk.elim) ?aF ?aO ?aB ?aS ?aL ?_; (case aP => exact rfl); (case aB => exact (by repeat (first | (with_reducible first | exact HB.out | apply below_alloc | apply pw_below_drewN | apply below_drew1) | exact HB.out))); (case aF => exact (fun _ _ => trivial)); (case aO => exact (by (with_reducible repeat (first | apply Kd.R_alloc | apply Kd.R_drewN | apply Kd.R_drew)); exact HO_5.out)); (case aS => exact (below_size (by repeat (first | (with_reducible first | exact HB.out | apply below_alloc | apply pw_below_drewN | apply below_drew1) | exact HB.out)))); (case aL => have := LMc9.out; omega); intro v344 w13 ho hb hg hat; rw [← Ny343.out] at ho; have n0_ := Aside0.mk (hb); have n1_ := Aside0.mk (ho); clear HB; clear HO_5; have HB := n0_; have HO345 := n1_; clear n0_ n1_; clear ho hb hg hat))
                  go_roundg k1
                  case measure => have := HK1.out; omega
                  case rel => exact ⟨(x0_1.extract ((ji10) : Int).toNat x0_1.size), (y343), (by first | rfl | (simp; done) | (simp only [← hji10] <;> (first | rfl | simp)) | (simp [*]; done)), H', ⟨by have := HK1.out; omega⟩, ⟨by (with_reducible repeat (first | apply Kd.R_alloc | apply Kd.R_drewN | apply Kd.R_drew)); exact HO345.out⟩, ⟨by repeat (first | (with_reducible first | exact HB.out | apply below_alloc | apply pw_below_drewN | apply below_drew1) | exact HB.out)⟩⟩
                · rw [if_neg c12] at H
                  exact absurd H (by simp)
              · rw [if_neg c11] at H
                exact absurd H (by simp)
            · rw [if_neg c9] at H
              exact absurd H (by simp)
          · rw [if_neg c8] at H
            exact absurd H (by simp)
        · rw [if_neg c7] at H
          exact absurd H (by simp)
end Go.Proofs.YtemgofomhjabpaaGreatDoor.Core
namespace Go.Proofs.YtemgofomhjabpaaGreatDoor.Core
open Go.RowKit Go.Proofs.YtemgofomhjabpaaGreatDoorW.PrintWords Go.Proofs.YtemgofomhjabpaaGreatDoorW.PrintLast Go.Proofs.YtemgofomhjabpaaGreatDoorW.PrintMore
attribute [local go_sem] max2_int min2_int max_two min_two max_three min_three max_four min_four   -- for this text's walks alone
set_option linter.unusedVariables false
set_option linter.unusedSimpArgs false
def gronx_zzReplaceAll.l0 : Nat → ByteArray → ByteArray → ByteArray → List Int → Option (ByteArray)
  | 0, _, _, _, _ => none
  | k + 1, x0, x1, x2, x7 => (gronx_zzIndex.f k x0 x1).bind fun t346 => (if t346 < 0 then (if x7.length + x0.size < 140737488355328 then (some (strOfNums (x7 ++ bytesOf x0))) else (none)) else (if 0 ≤ t346 then (if t346 ≤ (x0.size : Int) then (if x7.length + (x0.extract 0 (t346 : Int).toNat).size < 140737488355328 then ((some (x7 ++ bytesOf (x0.extract 0 (t346 : Int).toNat) : List Int)).bind fun y350 => (if y350.length + x2.size < 140737488355328 then (if 0 ≤ (wrap64 (t346 + (x1.size : Int))) then (if (wrap64 (t346 + (x1.size : Int))) ≤ (x0.size : Int) then (gronx_zzReplaceAll.l0 k (x0.extract ((wrap64 (t346 + (x1.size : Int))) : Int).toNat x0.size) x1 x2 (y350 ++ bytesOf x2)) else (none)) else (none)) else (none))) else (none)) else (none)) else (none)))
def gronx_zzReplaceAll.f (k : Nat) (a0 : ByteArray) (a1 : ByteArray) (a2 : ByteArray) : Option (ByteArray) := gronx_zzReplaceAll.l0 k a0 a1 a2 ([] : List Int)
set_option maxHeartbeats 8000000 in
set_option maxRecDepth 100000 in
theorem gronx_zzReplaceAll.calls (k : Nat) (a0 : ByteArray) (a1 : ByteArray) (a2 : ByteArray) (r : ByteArray) (w : World) (h : gronx_zzReplaceAll.f k a0 a1 a2 = some r) :
    Calls Tryz.prog 63 #[.string a0, .string a1, .string a2] w fun e w' => e = .returned (.string r) ∧ Below w.heap.size w w' := by
  have HB := Aside0.mk (Below.refl w.heap.size w)
  have H : (gronx_zzReplaceAll.l0 k a0 a1 a2 ([] : List Int)) = some r := h
  clear h
  have H' := Aside0.mk H
  clear H
  go_enter Tryz.func63, Tryz.ntmps63
  go_wp2
  go_loopg [0, 7] k (fun kq v0 v7 w' => ∃ (x0_1 : ByteArray) (x7_1 : List Int), v0 = .string x0_1 ∧ Aside0 (gronx_zzReplaceAll.l0 kq x0_1 a1 a2 x7_1 = some r) ∧ Aside0 (kq ≤ k) ∧ Aside0 (Kd.R (Kd.int .u8) 5 w' w.heap.size (fun _ => True) v7 x7_1) ∧ Aside0 (Below w.heap.size w w'))
  case atStart => exact ⟨(a0), (([] : List Int)), (by first | rfl | (simp; done) | (simp [*]; done)), H', ⟨Nat.le_refl _⟩, ⟨by first | exact Kd.R_nil _ _ _ _ _ | exact Kd.N_nil _ _ _ _ _ | exact Kd.V_nil _ _ _ _ _ | exact Kd.Q_nil _ _ _ _ _ | exact Kd.S_nil _ _ _ _ _⟩, ⟨by repeat (first | (with_reducible first | exact HB.out | apply below_alloc | apply pw_below_drewN | apply below_drew1) | exact HB.out)⟩⟩
  case round =>
    clear H'
    try clear p2
    obtain ⟨x0_1, x7_1, rfl, HA, HK1, HO_7, HB⟩ := hrel
    cases gk with
    | zero => exact absurd HA.out (by simp [gronx_zzReplaceAll.l0])
    | succ k1 =>
      have H := HA.out
      clear HA
      simp only [gronx_zzReplaceAll.l0] at H
      replace H := Option.bind_eq_some_iff.mp H
      obtain ⟨t346, A40, H⟩ := H
      replace H : (if t346 < 0 then (if x7_1.length + x0_1.size < 140737488355328 then (some (strOfNums (x7_1 ++ bytesOf x0_1))) else (none)) else (if 0 ≤ t346 then (if t346 ≤ (x0_1.size : Int) then (if x7_1.length + (x0_1.extract 0 (t346 : Int).toNat).size < 140737488355328 then ((some (x7_1 ++ bytesOf (x0_1.extract 0 (t346 : Int).toNat) : List Int)).bind fun y350 => (if y350.length + a2.size < 140737488355328 then (if 0 ≤ (wrap64 (t346 + (a1.size : Int))) then (if (wrap64 (t346 + (a1.size : Int))) ≤ (x0_1.size : Int) then (gronx_zzReplaceAll.l0 k1 (x0_1.extract ((wrap64 (t346 + (a1.size : Int))) : Int).toNat x0_1.size) a1 a2 (y350 ++ bytesOf a2)) else (none)) else (none)) else (none))) else (none)) else (none)) else (none))) = some r := H
      have A4 := Aside0.mk A40
      clear A40
      by_cases c5 : t346 < 0
      · rw [if_pos c5] at H
        have c5b0 : decide (t346 < 0) = true := decide_eq_true c5
        clear c5
        by_cases c6 : x7_1.length + x0_1.size < 140737488355328
        · rw [if_pos c6] at H
          have LMc6 := Aside0.mk c6
          clear c6
          obtain ⟨y347, hy347⟩ : ∃ y_ : List Int, y_ = (x7_1 ++ bytesOf x0_1) := ⟨_, rfl⟩
          replace H : (some (strOfNums y347)) = some r := by first | (rw [hy347]; with_reducible exact H) | (have H2_ := (Option.bind_some _ _).symm.trans H; rw [hy347]; with_reducible exact H2_) | (have H2_ := (Option.bind_some _ _).symm.trans H; with_reducible exact H2_) | with_reducible exact H | (rw [hy347]; exact H) | exact H
          have Ny347 := Aside0.mk hy347
          clear hy347
          obtain rfl := Option.some.inj H
          go_wp2_with (first | ((with_reducible refine gate_callee (f := 50) rfl ?_); refine goesL_ (some 11) rfl rfl Tryz.func50 (by kernel_rfl) rfl #[.string x0_1, .string a1] rfl (by (try simp only [List.map_toArray, List.map_cons, List.map_nil]); first | done | rfl | (simp only [List.length_drop, List.length_take]; rfl)) ?_; (with_reducible refine (gronx_zzIndex.calls k1 x0_1 a1 t346 _ A4.out).mono ?_); rintro e w' ⟨rfl, ⟨nd, rfl⟩⟩; refine ⟨_, rfl, ?_⟩) | (at_builtin; refine print_append_str (w0 := w) w.heap.size rfl (.tmp 14) _ 137 9 5 rfl Tryz.underlying137 Tryz.underlying9 info5 u7 x7_1 x0_1 rfl rfl ?aO ?aB ?aS ?aL ?_; (case aB => exact (by repeat (first | (with_reducible first | exact HB.out | apply below_alloc | apply pw_below_drewN | apply below_drew1) | exact HB.out))); (case aO => exact (Kd.own_of_R (by (with_reducible repeat (first | apply Kd.R_alloc | apply Kd.R_drewN | apply Kd.R_drew)); exact HO_7.out))); (case aS => exact (below_size (by repeat (first | (with_reducible first | exact HB.out | apply below_alloc | apply pw_below_drewN | apply below_drew1) | exact HB.out)))); (case aL => have := LMc6.out; omega); intro v348 w7 ho0 hb hg; have ho := Kd.R_of_own (h1 := fun _ => rfl) (ok := fun _ => True) ho0 (fun _ _ => trivial); clear ho0; have hat := True.intro; rw [← Ny347.out] at ho; change Kd.R (Kd.int .u8) 5 w7 w.heap.size (fun _ => True) v348 y347 at ho; have n0_ := Aside0.mk (hb); have n1_ := Aside0.mk (ho); clear HB; clear HO_7; have HB := n0_; have HO349 := n1_; clear n0_ n1_; clear ho hb hg hat; have hcv8 := own_string (P := Tryz.prog) Tryz.underlying137 Tryz.underlying5 Tryz.underlying9 (Kd.own_of_R HO349.out)))
          go_ret
          exact ⟨by first | rfl | (simp [errW_none, errW_some] <;> rfl) | (simp [*, errW_none, errW_some] <;> rfl), by repeat (first | (with_reducible first | exact HB.out | apply below_alloc | apply pw_below_drewN | apply below_drew1) | exact HB.out)⟩
        · rw [if_neg c6] at H
          exact absurd H (by simp)
      · rw [if_neg c5] at H
        have c5b0 : decide (t346 < 0) = false := decide_eq_false c5
        clear c5
        by_cases c9 : 0 ≤ t346
        · rw [if_pos c9] at H
          have c9b0 := eq_true c9
          have c9b1 : decide (0 ≤ t346) = true := decide_eq_true c9
          clear c9
          by_cases c10 : t346 ≤ (x0_1.size : Int)
          · rw [if_pos c10] at H
            have c10b0 := eq_true c10
            have c10b1 : decide (t346 ≤ (x0_1.size : Int)) = true := decide_eq_true c10
            clear c10
            by_cases c11 : x7_1.length + (x0_1.extract 0 (t346 : Int).toNat).size < 140737488355328
            · rw [if_pos c11] at H
              have LMc11 := Aside0.mk c11
              clear c11
              obtain ⟨y350, hy350⟩ : ∃ y_ : List Int, y_ = (x7_1 ++ bytesOf (x0_1.extract 0 (t346 : Int).toNat)) := ⟨_, rfl⟩
              replace H : (if y350.length + a2.size < 140737488355328 then (if 0 ≤ (wrap64 (t346 + (a1.size : Int))) then (if (wrap64 (t346 + (a1.size : Int))) ≤ (x0_1.size : Int) then (gronx_zzReplaceAll.l0 k1 (x0_1.extract ((wrap64 (t346 + (a1.size : Int))) : Int).toNat x0_1.size) a1 a2 (y350 ++ bytesOf a2)) else (none)) else (none)) else (none)) = some r := by first | (rw [hy350]; with_reducible exact H) | (have H2_ := (Option.bind_some _ _).symm.trans H; rw [hy350]; with_reducible exact H2_) | (have H2_ := (Option.bind_some _ _).symm.trans H; with_reducible exact H2_) | with_reducible exact H | (rw [hy350]; exact H) | exact H
              have Ny350 := Aside0.mk hy350
              clear hy350
              by_cases c12 : y350.length + a2.size < 140737488355328
              · rw [if_pos c12] at H
                have LMc12 := Aside0.mk c12
                clear c12
                obtain ⟨y353, hy353⟩ : ∃ y_ : List Int, y_ = (y350 ++ bytesOf a2) := ⟨_, rfl⟩
                replace H : (if 0 ≤ (wrap64 (t346 + (a1.size : Int))) then (if (wrap64 (t346 + (a1.size : Int))) ≤ (x0_1.size : Int) then (gronx_zzReplaceAll.l0 k1 (x0_1.extract ((wrap64 (t346 + (a1.size : Int))) : Int).toNat x0_1.size) a1 a2 y353) else (none)) else (none)) = some r := by first | (rw [hy353]; with_reducible exact H) | (have H2_ := (Option.bind_some _ _).symm.trans H; rw [hy353]; with_reducible exact H2_) | (have H2_ := (Option.bind_some _ _).symm.trans H; with_reducible exact H2_) | with_reducible exact H | (rw [hy353]; exact H) | exact H
                have Ny353 := Aside0.mk hy353
                clear hy353
                obtain ⟨ji13, hji13⟩ : ∃ j_ : Int, (wrap64 (t346 + (a1.size : Int))) = j_ := ⟨_, rfl⟩
                replace H : (if 0 ≤ (ji13) then (if (ji13) ≤ (x0_1.size : Int) then (gronx_zzReplaceAll.l0 k1 (x0_1.extract ((ji13) : Int).toNat x0_1.size) a1 a2 y353) else (none)) else (none)) = some r := by first | (rw [hji13] at H; exact H) | (simp only [hji13] at H ⊢; exact H)
                (try rw [hji13] at A4)
                have hji13w : (IntKind.i64.wrap (t346 + (a1.size : Int))) = ji13 := (i64_w _).trans hji13
                by_cases c14 : 0 ≤ (ji13)
                · rw [if_pos c14] at H
                  have c14b0 := eq_true c14
                  have c14b1 : decide (0 ≤ (ji13)) = true := decide_eq_true c14
                  clear c14
                  by_cases c15 : (ji13) ≤ (x0_1.size : Int)
                  · rw [if_pos c15] at H
                    have c15b0 := eq_true c15
                    have c15b1 : decide ((ji13) ≤ (x0_1.size : Int)) = true := decide_eq_true c15
                    clear c15
                    have H' := Aside0.mk H
                    clear H
                    go_wp2_with (first | ((with_reducible refine gate_callee (f := 50) rfl ?_); refine goesL_ (some 11) rfl rfl Tryz.func50 (by kernel_rfl) rfl #[.string x0_1, .string a1] rfl (by (try simp only [List.map_toArray, List.map_cons, List.map_nil]); first | done | rfl | (simp only [List.length_drop, List.length_take]; rfl)) ?_; (with_reducible refine (gronx_zzIndex.calls k1 x0_1 a1 t346 _ A4.out).mono ?_); rintro e w' ⟨rfl, ⟨nd, rfl⟩⟩; refine ⟨_, rfl, ?_⟩) | (at_builtin; refine print_append_str (w0 := w) w.heap.size rfl (.tmp 18) _ 137 9 5 rfl Tryz.underlying137 Tryz.underlying9 info5 u7 x7_1 (x0_1.extract 0 (t346 : Int).toNat) rfl rfl ?aO ?aB ?aS ?aL ?_; (case aB => exact (by repeat (first | (with_reducible first | exact HB.out | apply below_alloc | apply pw_below_drewN | apply below_drew1) | exact HB.out))); (case aO => exact (Kd.own_of_R (by (with_reducible repeat (first | apply Kd.R_alloc | apply Kd.R_drewN | apply Kd.R_drew)); exact HO_7.out))); (case aS => exact (below_size (by repeat (first | (with_reducible first | exact HB.out | apply below_alloc | apply pw_below_drewN | apply below_drew1) | exact HB.out)))); (case aL => have := LMc11.out; omega); intro v351 w16 ho0 hb hg; have ho := Kd.R_of_own (h1 := fun _ => rfl) (ok := fun _ => True) ho0 (fun _ _ => trivial); clear ho0; have hat := True.intro; rw [← Ny350.out] at ho; change Kd.R (Kd.int .u8) 5 w16 w.heap.size (fun _ => True) v351 y350 at ho; have n0_ := Aside0.mk (hb); have n1_ := Aside0.mk (ho); clear HB; clear HO_7; have HB := n0_; have HO352 := n1_; clear n0_ n1_; clear ho hb hg hat) | (at_builtin; refine print_append_str (w0 := w) w.heap.size rfl (.tmp 22) _ 137 9 5 rfl Tryz.underlying137 Tryz.underlying9 info5 v351 y350 a2 rfl rfl ?aO ?aB ?aS ?aL ?_; (case aB => exact (by repeat (first | (with_reducible first | exact HB.out | apply below_alloc | apply pw_below_drewN | apply below_drew1) | exact HB.out))); (case aO => exact (Kd.own_of_R (by (with_reducible repeat (first | apply Kd.R_alloc | apply Kd.R_drewN | apply Kd.R_drew)); exact HO352.out))); (case aS => exact (below_size (by repeat (first | (with_reducible first | exact HB.out | apply below_alloc | apply pw_below_drewN | apply below_drew1) | exact HB.out)))); (case aL => have := LMc12.out; omega); intro v354 w17 ho0 hb hg; have ho := Kd.R_of_own (h1 := fun _ => rfl) (ok := fun _ => True) ho0 (fun _ _ => trivial); clear ho0; have hat := True.intro; rw [← Ny353.out] at ho; change Kd.R (Kd.int .u8) 5 w17 w.heap.size (fun _ => True) v354 y353 at ho; have n0_ := Aside0.mk (hb); have n1_ := Aside0.mk (ho); clear HB; clear HO352; have HB := n0_; have HO355 := n1_; clear n0_ n1_; clear ho hb hg hat))
                    go_roundg k1
                    case measure => have := HK1.out; omega
                    case rel => exact ⟨(x0_1.extract ((ji13) : Int).toNat x0_1.size), (y353), (by first | rfl | (simp; done) | (simp only [← hji13] <;> (first | rfl | simp)) | (simp [*]; done)), H', ⟨by have := HK1.out; omega⟩, ⟨by (with_reducible repeat (first | apply Kd.R_alloc | apply Kd.R_drewN | apply Kd.R_drew)); exact HO355.out⟩, ⟨by repeat (first | (with_reducible first | exact HB.out | apply below_alloc | apply pw_below_drewN | apply below_drew1) | exact HB.out)⟩⟩
                  · rw [if_neg c15] at H
                    exact absurd H (by simp)
                · rw [if_neg c14] at H
                  exact absurd H (by simp)
              · rw [if_neg c12] at H
                exact absurd H (by simp)
            · rw [if_neg c11] at H
              exact absurd H (by simp)
          · rw [if_neg c10] at H
            exact absurd H (by simp)
        · rw [if_neg c9] at H
          exact absurd H (by simp)
end Go.Proofs.YtemgofomhjabpaaGreatDoor.Core
namespace Go.Proofs
open Go.Shelf
def Tryz.lays158_ren : Go.Shelf.Ren := ⟨fun | 158 => 61 | 165 => 64 | 166 => 65 | 167 => 70 | 169 => 66 | 230 => 71 | 203 => 74 | 240 => 75 | 241 => 76 | 197 => 79 | 118 => 80 | 168 => 81 | 270 => 82 | 262 => 83 | 276 => 84 | 277 => 85 | 260 => 86 | 242 => 87 | 313 => 88 | 278 => 89 | 274 => 90 | 275 => 91 | n => n, fun | 9 => 9 | 4 => 4 | 3 => 3 | 5 => 5 | 72 => 139 | 0 => 0 | 76 => 141 | 75 => 71 | 107 => 154 | 70 => 136 | 20 => 20 | 37 => 137 | 127 => 155 | 21 => 21 | 105 => 158 | 164 => 163 | 162 => 169 | 203 => 167 | 119 => 170 | 46 => 145 | 139 => 173 | 138 => 172 | 51 => 144 | 160 => 174 | 208 => 180 | 206 => 178 | 80 => 143 | n => n, fun | 13 => 0 | 3 => 2 | 4 => 3 | n => n⟩
theorem Tryz.lays158 : Go.Proofs.Lays.n158 Tryz.prog Tryz.lays158_ren := {
  mixed := by kernel_rfl
  f118 := Tryz.func80.trans (congrArg some (by kernel_rfl))
  f158 := Tryz.func61.trans (congrArg some (by kernel_rfl))
  f165 := Tryz.func64.trans (congrArg some (by kernel_rfl))
  f166 := Tryz.func65.trans (congrArg some (by kernel_rfl))
  f167 := Tryz.func70.trans (congrArg some (by kernel_rfl))
  f168 := Tryz.func81.trans (congrArg some (by kernel_rfl))
  f169 := Tryz.func66.trans (congrArg some (by kernel_rfl))
  f197 := Tryz.func79.trans (congrArg some (by kernel_rfl))
  f203 := Tryz.func74.trans (congrArg some (by kernel_rfl))
  f230 := Tryz.func71.trans (congrArg some (by kernel_rfl))
  f240 := Tryz.func75.trans (congrArg some (by kernel_rfl))
  f241 := Tryz.func76.trans (congrArg some (by kernel_rfl))
  f242 := Tryz.func87.trans (congrArg some (by kernel_rfl))
  f260 := Tryz.func86.trans (congrArg some (by kernel_rfl))
  f262 := Tryz.func83.trans (congrArg some (by kernel_rfl))
  f270 := Tryz.func82.trans (congrArg some (by kernel_rfl))
  f274 := Tryz.func90.trans (congrArg some (by kernel_rfl))
  f275 := Tryz.func91.trans (congrArg some (by kernel_rfl))
  f276 := Tryz.func84.trans (congrArg some (by kernel_rfl))
  f277 := Tryz.func85.trans (congrArg some (by kernel_rfl))
  f278 := Tryz.func89.trans (congrArg some (by kernel_rfl))
  f313 := Tryz.func88.trans (congrArg some (by kernel_rfl))
  t0 := Tryz.underlying0
  a0 := Tryz.isAgg0
  z0 := Tryz.sizeOf0
  v0 := Tryz.zeroValue0
  t3 := Tryz.underlying3
  a3 := Tryz.isAgg3
  z3 := Tryz.sizeOf3
  v3 := Tryz.zeroValue3
  t4 := Tryz.underlying4
  a4 := Tryz.isAgg4
  z4 := Tryz.sizeOf4
  v4 := Tryz.zeroValue4
  t5 := Tryz.underlying5
  a5 := Tryz.isAgg5
  z5 := Tryz.sizeOf5
  v5 := Tryz.zeroValue5
  t9 := Tryz.underlying9
  a9 := Tryz.isAgg9
  z9 := Tryz.sizeOf9
  v9 := Tryz.zeroValue9
  t20 := Tryz.underlying20
  a20 := Tryz.isAgg20
  z20 := Tryz.sizeOf20
  v20 := Tryz.zeroValue20
  t21 := Tryz.underlying21
  a21 := Tryz.isAgg21
  z21 := Tryz.sizeOf21
  v21 := Tryz.zeroValue21
  t37 := Tryz.underlying137
  a37 := Tryz.isAgg137
  z37 := Tryz.sizeOf137
  v37 := Tryz.zeroValue137
  t46 := Tryz.underlying145
  a46 := Tryz.isAgg145
  z46 := Tryz.sizeOf145
  v46 := Tryz.zeroValue145
  t51 := Tryz.underlying144
  a51 := Tryz.isAgg144
  z51 := Tryz.sizeOf144
  v51 := Tryz.zeroValue144
  t70 := Tryz.underlying136
  a70 := Tryz.isAgg136
  z70 := Tryz.sizeOf136
  v70 := Tryz.zeroValue136
  t72 := Tryz.underlying139
  a72 := Tryz.isAgg139
  z72 := Tryz.sizeOf139
  v72 := Tryz.zeroValue139
  t75 := Tryz.underlying71
  a75 := Tryz.isAgg71
  z75 := Tryz.sizeOf71
  v75 := Tryz.zeroValue71
  t76 := Tryz.underlying141
  a76 := Tryz.isAgg141
  z76 := Tryz.sizeOf141
  v76 := Tryz.zeroValue141
  t105 := Tryz.underlying158
  a105 := Tryz.isAgg158
  z105 := Tryz.sizeOf158
  v105 := Tryz.zeroValue158
  t107 := Tryz.underlying154
  a107 := Tryz.isAgg154
  z107 := Tryz.sizeOf154
  v107 := Tryz.zeroValue154
  t119 := Tryz.underlying170
  a119 := Tryz.isAgg170
  z119 := Tryz.sizeOf170
  t127 := Tryz.underlying155
  a127 := Tryz.isAgg155
  z127 := Tryz.sizeOf155
  v127 := Tryz.zeroValue155
  t138 := Tryz.underlying172
  a138 := Tryz.isAgg172
  z138 := Tryz.sizeOf172
  v138 := Tryz.zeroValue172
  t139 := Tryz.underlying173
  a139 := Tryz.isAgg173
  z139 := Tryz.sizeOf173
  v139 := Tryz.zeroValue173
  t160 := Tryz.underlying174
  a160 := Tryz.isAgg174
  z160 := Tryz.sizeOf174
  v160 := Tryz.zeroValue174
  t162 := Tryz.underlying169
  a162 := Tryz.isAgg169
  z162 := Tryz.sizeOf169
  v162 := Tryz.zeroValue169
  t164 := Tryz.underlying163
  a164 := Tryz.isAgg163
  z164 := Tryz.sizeOf163
  v164 := Tryz.zeroValue163
  t203 := Tryz.underlying167
  a203 := Tryz.isAgg167
  z203 := Tryz.sizeOf167
  v203 := Tryz.zeroValue167
  t206 := Tryz.underlying178
  a206 := Tryz.isAgg178
  z206 := Tryz.sizeOf178
  v206 := Tryz.zeroValue178
  t208 := Tryz.underlying180
  a208 := Tryz.isAgg180
  z208 := Tryz.sizeOf180
  v208 := Tryz.zeroValue180
  g3 := by kernel_rfl
  g4 := by kernel_rfl
  g13 := by kernel_rfl }
theorem Tryz.Builder_Extra_158 : Builder.Extra Tryz.prog Tryz.lays158_ren := {
  sizeBuilder := by kernel_rfl
  liesBuilder := by kernel_rfl
  t5 := Tryz.underlying5
  a5 := Tryz.isAgg5
  z5 := Tryz.sizeOf5
  v5 := Tryz.zeroValue5
  infoByte := by kernel_rfl
  cellsByte := by kernel_rfl
  sizeByte := by kernel_rfl
  neB5 := by decide }
open Go.RowKit in
theorem Tryz.strings_ToUpper_ascii (s : ByteArray) (w : World) (hs : s.size ≤ 140737488355328) (hascii : ∀ (j : Nat) (b : UInt8), s.data.toList[j]? = some b → b.toNat < 128) :
    Calls Tryz.prog 61 #[.string s] w fun e w' => e = .returned (.string ⟨(Lib.toUpperA s.data.toList).toArray⟩) ∧ Below w.heap.size w w' := Any.strings_ToUpper_ascii Tryz.lays158 Tryz.Builder_Extra_158 s w hs hascii
def Tryz.lays159_ren : Go.Shelf.Ren := ⟨fun | 159 => 58 | 165 => 64 | 166 => 65 | 167 => 70 | 169 => 66 | 230 => 71 | 204 => 72 | 240 => 75 | 241 => 76 | 197 => 79 | 118 => 80 | 168 => 81 | 270 => 82 | 262 => 83 | 276 => 84 | 277 => 85 | 260 => 86 | 242 => 87 | 313 => 88 | 278 => 89 | 274 => 90 | 275 => 91 | n => n, fun | 9 => 9 | 4 => 4 | 3 => 3 | 5 => 5 | 72 => 139 | 0 => 0 | 76 => 141 | 75 => 71 | 107 => 154 | 70 => 136 | 20 => 20 | 37 => 137 | 127 => 155 | 21 => 21 | 105 => 158 | 164 => 163 | 162 => 169 | 203 => 167 | 119 => 170 | 46 => 145 | 139 => 173 | 138 => 172 | 51 => 144 | 160 => 174 | 208 => 180 | 206 => 178 | 80 => 143 | n => n, fun | 13 => 0 | 3 => 2 | 4 => 3 | n => n⟩
theorem Tryz.lays159 : Go.Proofs.Lays.n159 Tryz.prog Tryz.lays159_ren := {
  mixed := by kernel_rfl
  f118 := Tryz.func80.trans (congrArg some (by kernel_rfl))
  f159 := Tryz.func58.trans (congrArg some (by kernel_rfl))
  f165 := Tryz.func64.trans (congrArg some (by kernel_rfl))
  f166 := Tryz.func65.trans (congrArg some (by kernel_rfl))
  f167 := Tryz.func70.trans (congrArg some (by kernel_rfl))
  f168 := Tryz.func81.trans (congrArg some (by kernel_rfl))
  f169 := Tryz.func66.trans (congrArg some (by kernel_rfl))
  f197 := Tryz.func79.trans (congrArg some (by kernel_rfl))
  f204 := Tryz.func72.trans (congrArg some (by kernel_rfl))
  f230 := Tryz.func71.trans (congrArg some (by kernel_rfl))
  f240 := Tryz.func75.trans (congrArg some (by kernel_rfl))
  f241 := Tryz.func76.trans (congrArg some (by kernel_rfl))
  f242 := Tryz.func87.trans (congrArg some (by kernel_rfl))
  f260 := Tryz.func86.trans (congrArg some (by kernel_rfl))
  f262 := Tryz.func83.trans (congrArg some (by kernel_rfl))
  f270 := Tryz.func82.trans (congrArg some (by kernel_rfl))
  f274 := Tryz.func90.trans (congrArg some (by kernel_rfl))
  f275 := Tryz.func91.trans (congrArg some (by kernel_rfl))
  f276 := Tryz.func84.trans (congrArg some (by kernel_rfl))
  f277 := Tryz.func85.trans (congrArg some (by kernel_rfl))
  f278 := Tryz.func89.trans (congrArg some (by kernel_rfl))
  f313 := Tryz.func88.trans (congrArg some (by kernel_rfl))
  t0 := Tryz.underlying0
  a0 := Tryz.isAgg0
  z0 := Tryz.sizeOf0
  v0 := Tryz.zeroValue0
  t3 := Tryz.underlying3
  a3 := Tryz.isAgg3
  z3 := Tryz.sizeOf3
  v3 := Tryz.zeroValue3
  t4 := Tryz.underlying4
  a4 := Tryz.isAgg4
  z4 := Tryz.sizeOf4
  v4 := Tryz.zeroValue4
  t5 := Tryz.underlying5
  a5 := Tryz.isAgg5
  z5 := Tryz.sizeOf5
  v5 := Tryz.zeroValue5
  t9 := Tryz.underlying9
  a9 := Tryz.isAgg9
  z9 := Tryz.sizeOf9
  v9 := Tryz.zeroValue9
  t20 := Tryz.underlying20
  a20 := Tryz.isAgg20
  z20 := Tryz.sizeOf20
  v20 := Tryz.zeroValue20
  t21 := Tryz.underlying21
  a21 := Tryz.isAgg21
  z21 := Tryz.sizeOf21
  v21 := Tryz.zeroValue21
  t37 := Tryz.underlying137
  a37 := Tryz.isAgg137
  z37 := Tryz.sizeOf137
  v37 := Tryz.zeroValue137
  t46 := Tryz.underlying145
  a46 := Tryz.isAgg145
  z46 := Tryz.sizeOf145
  v46 := Tryz.zeroValue145
  t51 := Tryz.underlying144
  a51 := Tryz.isAgg144
  z51 := Tryz.sizeOf144
  v51 := Tryz.zeroValue144
  t70 := Tryz.underlying136
  a70 := Tryz.isAgg136
  z70 := Tryz.sizeOf136
  v70 := Tryz.zeroValue136
  t72 := Tryz.underlying139
  a72 := Tryz.isAgg139
  z72 := Tryz.sizeOf139
  v72 := Tryz.zeroValue139
  t75 := Tryz.underlying71
  a75 := Tryz.isAgg71
  z75 := Tryz.sizeOf71
  v75 := Tryz.zeroValue71
  t76 := Tryz.underlying141
  a76 := Tryz.isAgg141
  z76 := Tryz.sizeOf141
  v76 := Tryz.zeroValue141
  t105 := Tryz.underlying158
  a105 := Tryz.isAgg158
  z105 := Tryz.sizeOf158
  v105 := Tryz.zeroValue158
  t107 := Tryz.underlying154
  a107 := Tryz.isAgg154
  z107 := Tryz.sizeOf154
  v107 := Tryz.zeroValue154
  t119 := Tryz.underlying170
  a119 := Tryz.isAgg170
  z119 := Tryz.sizeOf170
  t127 := Tryz.underlying155
  a127 := Tryz.isAgg155
  z127 := Tryz.sizeOf155
  v127 := Tryz.zeroValue155
  t138 := Tryz.underlying172
  a138 := Tryz.isAgg172
  z138 := Tryz.sizeOf172
  v138 := Tryz.zeroValue172
  t139 := Tryz.underlying173
  a139 := Tryz.isAgg173
  z139 := Tryz.sizeOf173
  v139 := Tryz.zeroValue173
  t160 := Tryz.underlying174
  a160 := Tryz.isAgg174
  z160 := Tryz.sizeOf174
  v160 := Tryz.zeroValue174
  t162 := Tryz.underlying169
  a162 := Tryz.isAgg169
  z162 := Tryz.sizeOf169
  v162 := Tryz.zeroValue169
  t164 := Tryz.underlying163
  a164 := Tryz.isAgg163
  z164 := Tryz.sizeOf163
  v164 := Tryz.zeroValue163
  t203 := Tryz.underlying167
  a203 := Tryz.isAgg167
  z203 := Tryz.sizeOf167
  v203 := Tryz.zeroValue167
  t206 := Tryz.underlying178
  a206 := Tryz.isAgg178
  z206 := Tryz.sizeOf178
  v206 := Tryz.zeroValue178
  t208 := Tryz.underlying180
  a208 := Tryz.isAgg180
  z208 := Tryz.sizeOf180
  v208 := Tryz.zeroValue180
  g3 := by kernel_rfl
  g4 := by kernel_rfl
  g13 := by kernel_rfl }
theorem Tryz.Builder_Extra_159 : Builder.Extra Tryz.prog Tryz.lays159_ren := {
  sizeBuilder := by kernel_rfl
  liesBuilder := by kernel_rfl
  t5 := Tryz.underlying5
  a5 := Tryz.isAgg5
  z5 := Tryz.sizeOf5
  v5 := Tryz.zeroValue5
  infoByte := by kernel_rfl
  cellsByte := by kernel_rfl
  sizeByte := by kernel_rfl
  neB5 := by decide }
open Go.RowKit in
theorem Tryz.strings_ToLower_ascii (s : ByteArray) (w : World) (hs : s.size ≤ 140737488355328) (hascii : ∀ (j : Nat) (b : UInt8), s.data.toList[j]? = some b → b.toNat < 128) :
    Calls Tryz.prog 58 #[.string s] w fun e w' => e = .returned (.string ⟨(Lib.toLowerA s.data.toList).toArray⟩) ∧ Below w.heap.size w w' := Any.strings_ToLower_ascii Tryz.lays159 Tryz.Builder_Extra_159 s w hs hascii
def Tryz.lays172_ren : Go.Shelf.Ren := ⟨fun | 172 => 136 | 244 => 148 | 245 => 149 | 247 => 152 | 279 => 153 | 280 => 154 | 281 => 155 | 282 => 156 | 287 => 157 | 316 => 158 | 171 => 159 | 205 => 47 | 321 => 160 | 322 => 161 | 243 => 162 | 246 => 163 | 283 => 164 | 284 => 165 | 285 => 166 | 286 => 167 | 129 => 169 | 317 => 168 | 318 => 170 | 319 => 171 | 320 => 172 | 337 => 173 | 338 => 174 | n => n, fun | 9 => 9 | 3 => 3 | 75 => 71 | 76 => 141 | 4 => 4 | 5 => 5 | 167 => 233 | 37 => 137 | 0 => 0 | 85 => 234 | 2 => 2 | 168 => 236 | 53 => 76 | 175 => 239 | 46 => 145 | 210 => 242 | 127 => 155 | 145 => 135 | 143 => 133 | 21 => 21 | 171 => 245 | 173 => 248 | 212 => 251 | 51 => 144 | 20 => 20 | 213 => 252 | 232 => 255 | 233 => 256 | 80 => 143 | n => n, fun | 15 => 4 | 16 => 5 | 17 => 6 | 18 => 7 | 19 => 8 | n => n⟩
theorem Tryz.lays172 : Go.Proofs.Lays.n172 Tryz.prog Tryz.lays172_ren := {
  mixed := by kernel_rfl
  f129 := Tryz.func169.trans (congrArg some (by kernel_rfl))
  f171 := Tryz.func159.trans (congrArg some (by kernel_rfl))
  f172 := Tryz.func136.trans (congrArg some (by kernel_rfl))
  f205 := Tryz.func47.trans (congrArg some (by kernel_rfl))
  f243 := Tryz.func162.trans (congrArg some (by kernel_rfl))
  f244 := Tryz.func148.trans (congrArg some (by kernel_rfl))
  f245 := Tryz.func149.trans (congrArg some (by kernel_rfl))
  f246 := Tryz.func163.trans (congrArg some (by kernel_rfl))
  f247 := Tryz.func152.trans (congrArg some (by kernel_rfl))
  f279 := Tryz.func153.trans (congrArg some (by kernel_rfl))
  f280 := Tryz.func154.trans (congrArg some (by kernel_rfl))
  f281 := Tryz.func155.trans (congrArg some (by kernel_rfl))
  f282 := Tryz.func156.trans (congrArg some (by kernel_rfl))
  f283 := Tryz.func164.trans (congrArg some (by kernel_rfl))
  f284 := Tryz.func165.trans (congrArg some (by kernel_rfl))
  f285 := Tryz.func166.trans (congrArg some (by kernel_rfl))
  f286 := Tryz.func167.trans (congrArg some (by kernel_rfl))
  f287 := Tryz.func157.trans (congrArg some (by kernel_rfl))
  f316 := Tryz.func158.trans (congrArg some (by kernel_rfl))
  f317 := Tryz.func168.trans (congrArg some (by kernel_rfl))
  f318 := Tryz.func170.trans (congrArg some (by kernel_rfl))
  f319 := Tryz.func171.trans (congrArg some (by kernel_rfl))
  f320 := Tryz.func172.trans (congrArg some (by kernel_rfl))
  f321 := Tryz.func160.trans (congrArg some (by kernel_rfl))
  f322 := Tryz.func161.trans (congrArg some (by kernel_rfl))
  f337 := Tryz.func173.trans (congrArg some (by kernel_rfl))
  f338 := Tryz.func174.trans (congrArg some (by kernel_rfl))
  t0 := Tryz.underlying0
  a0 := Tryz.isAgg0
  z0 := Tryz.sizeOf0
  v0 := Tryz.zeroValue0
  t2 := Tryz.underlying2
  a2 := Tryz.isAgg2
  z2 := Tryz.sizeOf2
  v2 := Tryz.zeroValue2
  t3 := Tryz.underlying3
  a3 := Tryz.isAgg3
  z3 := Tryz.sizeOf3
  v3 := Tryz.zeroValue3
  t4 := Tryz.underlying4
  a4 := Tryz.isAgg4
  z4 := Tryz.sizeOf4
  v4 := Tryz.zeroValue4
  t5 := Tryz.underlying5
  a5 := Tryz.isAgg5
  z5 := Tryz.sizeOf5
  v5 := Tryz.zeroValue5
  t9 := Tryz.underlying9
  a9 := Tryz.isAgg9
  z9 := Tryz.sizeOf9
  v9 := Tryz.zeroValue9
  t20 := Tryz.underlying20
  a20 := Tryz.isAgg20
  z20 := Tryz.sizeOf20
  v20 := Tryz.zeroValue20
  t21 := Tryz.underlying21
  a21 := Tryz.isAgg21
  z21 := Tryz.sizeOf21
  v21 := Tryz.zeroValue21
  t37 := Tryz.underlying137
  a37 := Tryz.isAgg137
  z37 := Tryz.sizeOf137
  v37 := Tryz.zeroValue137
  t46 := Tryz.underlying145
  a46 := Tryz.isAgg145
  z46 := Tryz.sizeOf145
  v46 := Tryz.zeroValue145
  t51 := Tryz.underlying144
  a51 := Tryz.isAgg144
  z51 := Tryz.sizeOf144
  v51 := Tryz.zeroValue144
  t53 := Tryz.underlying76
  a53 := Tryz.isAgg76
  z53 := Tryz.sizeOf76
  v53 := Tryz.zeroValue76
  t75 := Tryz.underlying71
  a75 := Tryz.isAgg71
  z75 := Tryz.sizeOf71
  v75 := Tryz.zeroValue71
  t76 := Tryz.underlying141
  a76 := Tryz.isAgg141
  z76 := Tryz.sizeOf141
  v76 := Tryz.zeroValue141
  t85 := Tryz.underlying234
  a85 := Tryz.isAgg234
  z85 := Tryz.sizeOf234
  v85 := Tryz.zeroValue234
  t127 := Tryz.underlying155
  a127 := Tryz.isAgg155
  z127 := Tryz.sizeOf155
  v127 := Tryz.zeroValue155
  t143 := Tryz.underlying133
  a143 := Tryz.isAgg133
  z143 := Tryz.sizeOf133
  v143 := Tryz.zeroValue133
  t145 := Tryz.underlying135
  a145 := Tryz.isAgg135
  z145 := Tryz.sizeOf135
  v145 := Tryz.zeroValue135
  t167 := Tryz.underlying233
  a167 := Tryz.isAgg233
  z167 := Tryz.sizeOf233
  v167 := Tryz.zeroValue233
  t168 := Tryz.underlying236
  a168 := Tryz.isAgg236
  z168 := Tryz.sizeOf236
  v168 := Tryz.zeroValue236
  t171 := Tryz.underlying245
  a171 := Tryz.isAgg245
  z171 := Tryz.sizeOf245
  v171 := Tryz.zeroValue245
  t173 := Tryz.underlying248
  a173 := Tryz.isAgg248
  z173 := Tryz.sizeOf248
  v173 := Tryz.zeroValue248
  t175 := Tryz.underlying239
  a175 := Tryz.isAgg239
  z175 := Tryz.sizeOf239
  v175 := Tryz.zeroValue239
  t210 := Tryz.underlying242
  a210 := Tryz.isAgg242
  z210 := Tryz.sizeOf242
  v210 := Tryz.zeroValue242
  t212 := Tryz.underlying251
  a212 := Tryz.isAgg251
  z212 := Tryz.sizeOf251
  v212 := Tryz.zeroValue251
  t213 := Tryz.underlying252
  a213 := Tryz.isAgg252
  z213 := Tryz.sizeOf252
  t232 := Tryz.underlying255
  a232 := Tryz.isAgg255
  z232 := Tryz.sizeOf255
  v232 := Tryz.zeroValue255
  t233 := Tryz.underlying256
  a233 := Tryz.isAgg256
  z233 := Tryz.sizeOf256
  v233 := Tryz.zeroValue256
  g15 := by kernel_rfl
  g16 := by kernel_rfl
  g17 := by kernel_rfl
  g18 := by kernel_rfl
  g19 := by kernel_rfl }
open Go.RowKit in
theorem Tryz.strconv_Atoi (s : ByteArray) (n : Int) (hl : s.size ≤ 18) (h : Lib.atoi s.data.toList = some n) (w : World) :
    Calls Tryz.prog 136 #[.string s] w fun e w' => e = .returned (.tuple #[.int .i64 n, .nilIface]) ∧ ∃ t, w' = Lib.bytesWorld w 5 t := Any.strconv_Atoi Tryz.lays172 s n hl h w
end Go.Proofs
namespace Go.Proofs.YtemgofomhjabpaaGreatDoor.Core
open Go.RowKit Go.Proofs.YtemgofomhjabpaaGreatDoorW.PrintWords
def isAscii (s : ByteArray) : Bool := s.data.toList.all fun b => decide (b.toNat < 128)
theorem isAscii_at {s : ByteArray} (h : isAscii s = true) (j : Nat) (b : UInt8) (hb : s.data.toList[j]? = some b) : b.toNat < 128 :=
  of_decide_eq_true (List.all_eq_true.1 h b (List.mem_of_getElem? hb))
def strings_ToLower.f (a0 : ByteArray) : Option (ByteArray) := if a0.size ≤ 140737488355328 then (if isAscii a0 = true then (some ⟨(Lib.toLowerA a0.data.toList).toArray⟩) else none) else none
theorem strings_ToLower.calls (a0 : ByteArray) (r : ByteArray) (w : World) (h : strings_ToLower.f a0 = some r) :
    Calls Tryz.prog 58 #[.string a0] w fun e w' => e = .returned (.string r) ∧ Below w.heap.size w w' := by
  unfold strings_ToLower.f at h
  split at h
  · rename_i h1
    split at h
    · rename_i h2
      obtain rfl := Option.some.inj h
      exact Tryz.strings_ToLower_ascii a0 w h1 (fun j b hb => isAscii_at h2 j b hb)
    · cases h
  · cases h
def strings_ToUpper.f (a0 : ByteArray) : Option (ByteArray) := if a0.size ≤ 140737488355328 then (if isAscii a0 = true then (some ⟨(Lib.toUpperA a0.data.toList).toArray⟩) else none) else none
theorem strings_ToUpper.calls (a0 : ByteArray) (r : ByteArray) (w : World) (h : strings_ToUpper.f a0 = some r) :
    Calls Tryz.prog 61 #[.string a0] w fun e w' => e = .returned (.string r) ∧ Below w.heap.size w w' := by
  unfold strings_ToUpper.f at h
  split at h
  · rename_i h1
    split at h
    · rename_i h2
      obtain rfl := Option.some.inj h
      exact Tryz.strings_ToUpper_ascii a0 w h1 (fun j b hb => isAscii_at h2 j b hb)
    · cases h
  · cases h
end Go.Proofs.YtemgofomhjabpaaGreatDoor.Core
namespace Go.Proofs.YtemgofomhjabpaaGreatDoor.Core
open Go.RowKit Go.Proofs.YtemgofomhjabpaaGreatDoorW.PrintWords Go.Proofs.YtemgofomhjabpaaGreatDoorW.PrintLast Go.Proofs.YtemgofomhjabpaaGreatDoorW.PrintMore
attribute [local go_sem] max2_int min2_int max_two min_two max_three min_three max_four min_four   -- for this text's walks alone
set_option linter.unusedVariables false
set_option linter.unusedSimpArgs false
def gronx_normalize.j0 : Nat → ByteArray → Option (List ByteArray)
  | 0, _ => none
  | k + 1, x0 => (gronx_zzSpaces.f k x0).bind fun t360 => ((strings_ToUpper.f t360).bind fun t361 => ((gronx_zzLiterals.f k t361).bind fun t362 => ((gronx_zzReplaceAll.f k t362 (⟨#[32, 32]⟩ : ByteArray) (⟨#[32]⟩ : ByteArray)).bind fun t363 => ((gronx_zzSplit.f k t363 (⟨#[32]⟩ : ByteArray)).bind fun t364 => (some t364)))))
def gronx_normalize.f (k : Nat) (a0 : ByteArray) : Option (List ByteArray) := (gronx_zzTrim.f k a0).bind fun t356 => ((strings_ToLower.f t356).bind fun t357 => ((gronx_expression.f t357).bind fun bt358 => (if bt358.2 = true then (gronx_normalize.j0 k bt358.1) else (gronx_normalize.j0 k t356))))
set_option maxHeartbeats 8000000 in
set_option maxRecDepth 100000 in
theorem gronx_normalize.calls (k : Nat) (a0 : ByteArray) (r : List ByteArray) (w : World) (h : gronx_normalize.f k a0 = some r) :
    Calls Tryz.prog 46 #[.string a0] w fun e w' => ∃ v0_ : Value, e = .returned (v0_) ∧ Kd.R Kd.string 9 w' w.heap.size (fun _ => True) v0_ r ∧ Below w.heap.size w w' := by
  have HB := Aside0.mk (Below.refl w.heap.size w)
  have H : ((gronx_zzTrim.f k a0).bind fun t356 => ((strings_ToLower.f t356).bind fun t357 => ((gronx_expression.f t357).bind fun bt358 => (if bt358.2 = true then (gronx_normalize.j0 k bt358.1) else (gronx_normalize.j0 k t356))))) = some r := h
  clear h
  replace H := Option.bind_eq_some_iff.mp H
  obtain ⟨t356, A20, H⟩ := H
  replace H : ((strings_ToLower.f t356).bind fun t357 => ((gronx_expression.f t357).bind fun bt358 => (if bt358.2 = true then (gronx_normalize.j0 k bt358.1) else (gronx_normalize.j0 k t356)))) = some r := H
  have A2 := Aside0.mk A20
  clear A20
  replace H := Option.bind_eq_some_iff.mp H
  obtain ⟨t357, A30, H⟩ := H
  replace H : ((gronx_expression.f t357).bind fun bt358 => (if bt358.2 = true then (gronx_normalize.j0 k bt358.1) else (gronx_normalize.j0 k t356))) = some r := H
  have A3 := Aside0.mk A30
  clear A30
  replace H := Option.bind_eq_some_iff.mp H
  obtain ⟨⟨t358, t359⟩, A40, H⟩ := H
  replace H : (if t359 = true then (gronx_normalize.j0 k t358) else (gronx_normalize.j0 k t356)) = some r := H
  have A4 := Aside0.mk A40
  clear A40
  have HC5 := Aside0.mk H
  clear H
  go_enter Tryz.func46, Tryz.ntmps46
  go_upto_if 13 with (first | ((with_reducible refine gate_callee (f := 56) rfl ?_); refine goesL_ (some 6) rfl rfl Tryz.func56 (by kernel_rfl) rfl #[.string a0] rfl (by (try simp only [List.map_toArray, List.map_cons, List.map_nil]); first | done | rfl | (simp only [List.length_drop, List.length_take]; rfl)) ?_; (with_reducible refine (gronx_zzTrim.calls k a0 t356 _ A2.out).mono ?_); rintro e w' ⟨rfl, ⟨nd, rfl⟩⟩; refine ⟨_, rfl, ?_⟩) | ((with_reducible refine gate_callee (f := 58) rfl ?_); refine goesL_ (some 9) rfl rfl Tryz.func58 (by kernel_rfl) rfl #[.string t356] rfl (by (try simp only [List.map_toArray, List.map_cons, List.map_nil]); first | done | rfl | (simp only [List.length_drop, List.length_take]; rfl)) ?_; (with_reducible refine (strings_ToLower.calls t356 t357 _ A3.out).mono ?_); rintro e w6 ⟨rfl, hb⟩; refine ⟨_, rfl, ?_⟩; have n0_ := Aside0.mk (below_step (by repeat (first | (with_reducible first | exact HB.out | apply below_alloc | apply pw_below_drewN | apply below_drew1) | exact HB.out)) hb); clear HB; have HB := n0_; clear n0_; (try clear hb); (try clear hb2); (try clear hk); (try clear hi)) | ((with_reducible refine gate_callee (f := 57) rfl ?_); refine goesL_ (some 10) rfl rfl Tryz.func57 (by kernel_rfl) rfl #[.string t357] rfl (by (try simp only [List.map_toArray, List.map_cons, List.map_nil]); first | done | rfl | (simp only [List.length_drop, List.length_take]; rfl)) ?_; (with_reducible refine (gronx_expression.calls t357 t358 t359 _ A4.out).mono ?_); rintro e w' ⟨rfl, ⟨nd, rfl⟩⟩; refine ⟨_, rfl, ?_⟩))
  (try simp only [Act.put, List.setIfInBounds_toArray, List.set_cons_zero, List.set_cons_succ])
  go_cut [0] (fun v0 wc => ∃ (kq : Nat) (x0_4 : ByteArray), v0 = .string x0_4 ∧ Aside0 (gronx_normalize.j0 kq x0_4 = some r) ∧ Aside0 (kq ≤ k) ∧ Aside0 (Below w.heap.size w wc))
  case first =>
    have H := HC5.out
    clear HC5
    by_cases c7 : t359 = true
    · subst c7
      have H1 : (gronx_normalize.j0 k t358) = some r := by rw [if_pos rfl] at H; exact H
      clear H
      have H := H1
      clear H1
      have H' := Aside0.mk H
      clear H
      go_wp2
      go_meet
      case rel => exact ⟨_, (t358), (by first | rfl | (simp; done) | (simp [*]; done)), H', ⟨by first | omega | exact Nat.le_refl _⟩, ⟨by repeat (first | (with_reducible first | exact HB.out | apply below_alloc | apply pw_below_drewN | apply below_drew1) | exact HB.out)⟩⟩
    · replace c7 := Bool.eq_false_iff.mpr c7
      subst c7
      have H1 : (gronx_normalize.j0 k t356) = some r := by rw [if_neg (show ¬ (false = true) by decide)] at H; exact H
      clear H
      have H := H1
      clear H1
      have H' := Aside0.mk H
      clear H
      go_wp2
      go_meet
      case rel => exact ⟨_, (t356), (by first | rfl | (simp; done) | (simp [*]; done)), H', ⟨by first | omega | exact Nat.le_refl _⟩, ⟨by repeat (first | (with_reducible first | exact HB.out | apply below_alloc | apply pw_below_drewN | apply below_drew1) | exact HB.out)⟩⟩
  case rest =>
    clear HC5
    try clear p2
    try clear c4
    try clear c5
    try clear c7
    obtain ⟨kq, x0_4, rfl, HA, HJ4, HB⟩ := hcut
    cases kq with
    | zero => exact absurd HA.out (by simp [gronx_normalize.j0])
    | succ kj4 =>
      have H := HA.out
      clear HA
      simp only [gronx_normalize.j0] at H
      replace H := Option.bind_eq_some_iff.mp H
      obtain ⟨t360, A80, H⟩ := H
      replace H : ((strings_ToUpper.f t360).bind fun t361 => ((gronx_zzLiterals.f kj4 t361).bind fun t362 => ((gronx_zzReplaceAll.f kj4 t362 (⟨#[32, 32]⟩ : ByteArray) (⟨#[32]⟩ : ByteArray)).bind fun t363 => ((gronx_zzSplit.f kj4 t363 (⟨#[32]⟩ : ByteArray)).bind fun t364 => (some t364))))) = some r := H
      have A8 := Aside0.mk A80
      clear A80
      replace H := Option.bind_eq_some_iff.mp H
      obtain ⟨t361, A90, H⟩ := H
      replace H : ((gronx_zzLiterals.f kj4 t361).bind fun t362 => ((gronx_zzReplaceAll.f kj4 t362 (⟨#[32, 32]⟩ : ByteArray) (⟨#[32]⟩ : ByteArray)).bind fun t363 => ((gronx_zzSplit.f kj4 t363 (⟨#[32]⟩ : ByteArray)).bind fun t364 => (some t364)))) = some r := H
      have A9 := Aside0.mk A90
      clear A90
      replace H := Option.bind_eq_some_iff.mp H
      obtain ⟨t362, A100, H⟩ := H
      replace H : ((gronx_zzReplaceAll.f kj4 t362 (⟨#[32, 32]⟩ : ByteArray) (⟨#[32]⟩ : ByteArray)).bind fun t363 => ((gronx_zzSplit.f kj4 t363 (⟨#[32]⟩ : ByteArray)).bind fun t364 => (some t364))) = some r := H
      have A10 := Aside0.mk A100
      clear A100
      replace H := Option.bind_eq_some_iff.mp H
      obtain ⟨t363, A110, H⟩ := H
      replace H : ((gronx_zzSplit.f kj4 t363 (⟨#[32]⟩ : ByteArray)).bind fun t364 => (some t364)) = some r := H
      have A11 := Aside0.mk A110
      clear A110
      replace H := Option.bind_eq_some_iff.mp H
      obtain ⟨t364, A120, H⟩ := H
      replace H : (some t364) = some r := H
      have A12 := Aside0.mk A120
      clear A120
      obtain rfl := Option.some.inj H
      go_wp2_with (first | ((with_reducible refine gate_callee (f := 59) rfl ?_); refine goesL_ (some 16) rfl rfl Tryz.func59 (by kernel_rfl) rfl #[.string x0_4] rfl (by (try simp only [List.map_toArray, List.map_cons, List.map_nil]); first | done | rfl | (simp only [List.length_drop, List.length_take]; rfl)) ?_; (with_reducible refine (gronx_zzSpaces.calls kj4 x0_4 t360 _ A8.out).mono ?_); rintro e w13 ⟨rfl, hb⟩; refine ⟨_, rfl, ?_⟩; have n0_ := Aside0.mk (below_step (by repeat (first | (with_reducible first | exact HB.out | apply below_alloc | apply pw_below_drewN | apply below_drew1) | exact HB.out)) hb); clear HB; have HB := n0_; clear n0_; (try clear hb); (try clear hb2); (try clear hk); (try clear hi)) | ((with_reducible refine gate_callee (f := 61) rfl ?_); refine goesL_ (some 18) rfl rfl Tryz.func61 (by kernel_rfl) rfl #[.string t360] rfl (by (try simp only [List.map_toArray, List.map_cons, List.map_nil]); first | done | rfl | (simp only [List.length_drop, List.length_take]; rfl)) ?_; (with_reducible refine (strings_ToUpper.calls t360 t361 _ A9.out).mono ?_); rintro e w14 ⟨rfl, hb⟩; refine ⟨_, rfl, ?_⟩; have n0_ := Aside0.mk (below_step (by repeat (first | (with_reducible first | exact HB.out | apply below_alloc | apply pw_below_drewN | apply below_drew1) | exact HB.out)) hb); clear HB; have HB := n0_; clear n0_; (try clear hb); (try clear hb2); (try clear hk); (try clear hi)) | ((with_reducible refine gate_callee (f := 60) rfl ?_); refine goesL_ (some 19) rfl rfl Tryz.func60 (by kernel_rfl) rfl #[.string t361] rfl (by (try simp only [List.map_toArray, List.map_cons, List.map_nil]); first | done | rfl | (simp only [List.length_drop, List.length_take]; rfl)) ?_; (with_reducible refine (gronx_zzLiterals.calls kj4 t361 t362 _ A10.out).mono ?_); rintro e w15 ⟨rfl, hb⟩; refine ⟨_, rfl, ?_⟩; have n0_ := Aside0.mk (below_step (by repeat (first | (with_reducible first | exact HB.out | apply below_alloc | apply pw_below_drewN | apply below_drew1) | exact HB.out)) hb); clear HB; have HB := n0_; clear n0_; (try clear hb); (try clear hb2); (try clear hk); (try clear hi)) | ((with_reducible refine gate_callee (f := 63) rfl ?_); refine goesL_ (some 21) rfl rfl Tryz.func63 (by kernel_rfl) rfl #[.string t362, .string (⟨#[32, 32]⟩ : ByteArray), .string (⟨#[32]⟩ : ByteArray)] rfl (by (try simp only [List.map_toArray, List.map_cons, List.map_nil]); first | done | rfl | (simp only [List.length_drop, List.length_take]; rfl)) ?_; (with_reducible refine (gronx_zzReplaceAll.calls kj4 t362 (⟨#[32, 32]⟩ : ByteArray) (⟨#[32]⟩ : ByteArray) t363 _ A11.out).mono ?_); rintro e w16 ⟨rfl, hb⟩; refine ⟨_, rfl, ?_⟩; have n0_ := Aside0.mk (below_step (by repeat (first | (with_reducible first | exact HB.out | apply below_alloc | apply pw_below_drewN | apply below_drew1) | exact HB.out)) hb); clear HB; have HB := n0_; clear n0_; (try clear hb); (try clear hb2); (try clear hk); (try clear hi)) | ((with_reducible refine gate_callee (f := 62) rfl ?_); refine goesL_ (some 22) rfl rfl Tryz.func62 (by kernel_rfl) rfl #[.string t363, .string (⟨#[32]⟩ : ByteArray)] rfl (by (try simp only [List.map_toArray, List.map_cons, List.map_nil]); first | done | rfl | (simp only [List.length_drop, List.length_take]; rfl)) ?_; (with_reducible refine (gronx_zzSplit.calls kj4 t363 (⟨#[32]⟩ : ByteArray) t364 _ A12.out).mono ?_); rintro e w17 ⟨v365, rfl, ho0, hb⟩; refine ⟨_, rfl, ?_⟩; have n0_ := Aside0.mk (Kd.R_lower ho0 (below_size (by repeat (first | (with_reducible first | exact HB.out | apply below_alloc | apply pw_below_drewN | apply below_drew1) | exact HB.out)))); have n1_ := Aside0.mk (below_step (by repeat (first | (with_reducible first | exact HB.out | apply below_alloc | apply pw_below_drewN | apply below_drew1) | exact HB.out)) hb); clear HB; have HO366 := n0_; have HB := n1_; clear n0_ n1_; (try clear hb); (try clear hb2); (try clear hk); (try clear hi); (try clear ho0)))
      go_ret
      exact ⟨_, by first | rfl | (simp [errW_none, errW_some] <;> rfl) | (simp [*, errW_none, errW_some] <;> rfl), by (with_reducible repeat (first | apply Kd.R_alloc | apply Kd.R_drewN | apply Kd.R_drew)); exact HO366.out, by repeat (first | (with_reducible first | exact HB.out | apply below_alloc | apply pw_below_drewN | apply below_drew1) | exact HB.out)⟩
end Go.Proofs.YtemgofomhjabpaaGreatDoor.Core
namespace Go.Proofs.YtemgofomhjabpaaGreatDoor.Core
open Go.RowKit Go.Proofs.YtemgofomhjabpaaGreatDoorW.PrintWords Go.Proofs.YtemgofomhjabpaaGreatDoorW.PrintLast Go.Proofs.YtemgofomhjabpaaGreatDoorW.PrintMore
attribute [local go_sem] max2_int min2_int max_two min_two max_three min_three max_four min_four   -- for this text's walks alone
set_option linter.unusedVariables false
set_option linter.unusedSimpArgs false
mutual
def gronx_zzHasYear.l0 : Nat → ByteArray → Int → Int → Option (Bool)
  | 0, _, _, _ => none
  | k + 1, x0, x3, x4 => if x4 < (x0.size : Int) then (if 0 ≤ x4 then (if (bt x0 x4) < 48 then (gronx_zzHasYear.j1 k x0 x3 x4 true) else (gronx_zzHasYear.j1 k x0 x3 x4 (decide ((bt x0 x4) > 57)))) else (none)) else (some false)
def gronx_zzHasYear.j1 : Nat → ByteArray → Int → Int → Bool → Option (Bool)
  | 0, _, _, _, _ => none
  | k + 1, x0, x3, x4, x20 => if x20 = true then (gronx_zzHasYear.l0 k x0 0 (wrap64 (x4 + 1))) else (if (wrap64 (x3 + 1)) = 4 then (some true) else (gronx_zzHasYear.l0 k x0 (wrap64 (x3 + 1)) (wrap64 (x4 + 1))))
end
def gronx_zzHasYear.f (k : Nat) (a0 : ByteArray) : Option (Bool) := gronx_zzHasYear.l0 k a0 0 0
set_option maxHeartbeats 8000000 in
set_option maxRecDepth 100000 in
theorem gronx_zzHasYear.calls (k : Nat) (a0 : ByteArray) (r : Bool) (w : World) (h : gronx_zzHasYear.f k a0 = some r) :
    Calls Tryz.prog 48 #[.string a0] w fun e w' => e = .returned (.bool r) ∧ Drawn0 w w' := by
  have H : (gronx_zzHasYear.l0 k a0 0 0) = some r := h
  clear h
  have H' := Aside0.mk H
  clear H
  go_enter Tryz.func48, Tryz.ntmps48
  go_wp2
  go_loopg [3, 4] k (fun kq v3 v4 w' => ∃ (x3_1 : Int) (x4_1 : Int), v3 = .int .i64 x3_1 ∧ v4 = .int .i64 x4_1 ∧ Aside0 (gronx_zzHasYear.l0 kq a0 x3_1 x4_1 = some r) ∧ Aside0 (kq ≤ k) ∧ Drawn0 w w')
  case atStart => exact ⟨(0), (0), (by first | rfl | (simp; done) | (simp [*]; done)), (by first | rfl | (simp; done) | (simp [*]; done)), H', ⟨Nat.le_refl _⟩, by repeat (first | exact Drawn0.refl _ | apply Drawn0.step)⟩
  case round =>
    clear H'
    obtain ⟨x3_1, x4_1, rfl, rfl, HA, HK1, ⟨m1, rfl⟩⟩ := hrel
    cases gk with
    | zero => exact absurd HA.out (by simp [gronx_zzHasYear.l0])
    | succ k1 =>
      have H := HA.out
      clear HA
      simp only [gronx_zzHasYear.l0] at H
      by_cases c2 : x4_1 < (a0.size : Int)
      · rw [if_pos c2] at H
        have c2b0 : decide (x4_1 < (a0.size : Int)) = true := decide_eq_true c2
        clear c2
        have HC3 := Aside0.mk H
        clear H
        go_upto_region 5 with (fail)
        go_cut [20] (fun v20 wc => ∃ (kq : Nat) (x20_2 : Bool), v20 = .bool x20_2 ∧ Aside0 (gronx_zzHasYear.j1 kq a0 x3_1 x4_1 x20_2 = some r) ∧ Aside0 (kq ≤ k1) ∧ Drawn0 w wc)
        case first =>
          have H := HC3.out
          clear HC3
          by_cases c4 : 0 ≤ x4_1
          · rw [if_pos c4] at H
            have c4b0 : decide (0 ≤ x4_1) = true := decide_eq_true c4
            clear c4
            (first | rw [c4b0] | (simp only [i64_w, i32_w]; rw [c4b0]) | skip)
            by_cases c6 : (bt a0 x4_1) < 48
            · rw [if_pos c6] at H
              have c6b0 : decide ((bt a0 x4_1) < 48) = true := decide_eq_true c6
              clear c6
              have H' := Aside0.mk H
              clear H
              have p5 : 0 ≤ (x4_1 : Int) := of_decide_eq_true (by first | (with_reducible assumption) | assumption)
              have q5 : x4_1 < (a0.size : Int) := of_decide_eq_true (by first | (with_reducible assumption) | assumption)
              have hx5 := bt_at a0 x4_1
              replace p5 := eq_true p5
              replace q5 := eq_true q5
              go_wp2
              go_meet
              case rel => exact ⟨_, (true), (by first | rfl | (simp; done) | (simp [*]; done)), H', ⟨by have := HK1.out; first | omega | exact Nat.le_refl _⟩, by repeat (first | exact Drawn0.refl _ | apply Drawn0.step)⟩
            · rw [if_neg c6] at H
              have c6b0 : decide ((bt a0 x4_1) < 48) = false := decide_eq_false c6
              clear c6
              have H' := Aside0.mk H
              clear H
              have p5 : 0 ≤ (x4_1 : Int) := of_decide_eq_true (by first | (with_reducible assumption) | assumption)
              have q5 : x4_1 < (a0.size : Int) := of_decide_eq_true (by first | (with_reducible assumption) | assumption)
              have hx5 := bt_at a0 x4_1
              replace p5 := eq_true p5
              replace q5 := eq_true q5
              have p7 : 0 ≤ (x4_1 : Int) := of_decide_eq_true (by first | (with_reducible assumption) | assumption)
              have q7 : x4_1 < (a0.size : Int) := of_decide_eq_true (by first | (with_reducible assumption) | assumption)
              have hx7 := bt_at a0 x4_1
              replace p7 := eq_true p7
              replace q7 := eq_true q7
              go_wp2
              go_meet
              case rel => exact ⟨_, (decide ((bt a0 x4_1) > 57)), (by first | rfl | (simp; done) | (simp [*]; done)), H', ⟨by have := HK1.out; first | omega | exact Nat.le_refl _⟩, by repeat (first | exact Drawn0.refl _ | apply Drawn0.step)⟩
          · rw [if_neg c4] at H
            exact absurd H (by simp)
        case rest =>
          clear HC3
          try clear c2
          try clear c2b0
          try clear p2
          try clear c4
          try clear c4b0
          try clear p5
          try clear q5
          try clear hx5
          try clear c6
          try clear c6b0
          try clear p7
          try clear q7
          try clear hx7
          try clear p5
          try clear p7
          try clear q5
          try clear q7
          obtain ⟨kq, x20_2, rfl, HA, HJ2, ⟨mc2, rfl⟩⟩ := hcut
          cases kq with
          | zero => exact absurd HA.out (by simp [gronx_zzHasYear.j1])
          | succ kj2 =>
            have H := HA.out
            clear HA
            simp only [gronx_zzHasYear.j1] at H
            by_cases c8 : x20_2 = true
            · subst c8
              have H1 : (gronx_zzHasYear.l0 kj2 a0 0 (wrap64 (x4_1 + 1))) = some r := by rw [if_pos rfl] at H; exact H
              clear H
              have H := H1
              clear H1
              have H' := Aside0.mk H
              clear H
              go_wp2
              go_roundg kj2
              case measure => have := HK1.out; have := HJ2.out; omega
              case rel => exact ⟨(0), (wrap64 (x4_1 + 1)), (by first | rfl | (simp; done) | (simp [*]; done)), (by first | rfl | (simp; done) | (simp [*]; done)), H', ⟨by have := HK1.out; have := HJ2.out; omega⟩, by repeat (first | exact Drawn0.refl _ | apply Drawn0.step)⟩
            · replace c8 := Bool.eq_false_iff.mpr c8
              subst c8
              have H1 : (if (wrap64 (x3_1 + 1)) = 4 then (some true) else (gronx_zzHasYear.l0 kj2 a0 (wrap64 (x3_1 + 1)) (wrap64 (x4_1 + 1)))) = some r := by rw [if_neg (show ¬ (false = true) by decide)] at H; exact H
              clear H
              have H := H1
              clear H1
              by_cases c9 : (wrap64 (x3_1 + 1)) = 4
              · rw [if_pos c9] at H
                have c9b0 : ((wrap64 (x3_1 + 1)) == 4) = true := beq_iff_eq.mpr c9
                have c9b1 : ((wrap64 (x3_1 + 1)) != 4) = false := bne_eq_false_iff_eq.mpr c9
                clear c9
                obtain rfl := Option.some.inj H
                go_wp2
                go_ret
                exact ⟨by first | rfl | (simp; done) | (simp [*]; done), by repeat (first | exact Drawn0.refl _ | apply Drawn0.step)⟩
              · rw [if_neg c9] at H
                have c9b0 : ((wrap64 (x3_1 + 1)) == 4) = false := beq_eq_false_iff_ne.mpr c9
                have c9b1 : ((wrap64 (x3_1 + 1)) != 4) = true := bne_iff_ne.mpr c9
                have H' := Aside0.mk H
                clear H
                go_wp2
                go_roundg kj2
                case measure => have := HK1.out; have := HJ2.out; omega
                case rel => exact ⟨(wrap64 (x3_1 + 1)), (wrap64 (x4_1 + 1)), (by first | rfl | (simp; done) | (simp [*]; done)), (by first | rfl | (simp; done) | (simp [*]; done)), H', ⟨by have := HK1.out; have := HJ2.out; omega⟩, by repeat (first | exact Drawn0.refl _ | apply Drawn0.step)⟩
      · rw [if_neg c2] at H
        have c2b0 : decide (x4_1 < (a0.size : Int)) = false := decide_eq_false c2
        clear c2
        obtain rfl := Option.some.inj H
        go_wp2
        go_ret
        exact ⟨by first | rfl | (simp; done) | (simp [*]; done), by repeat (first | exact Drawn0.refl _ | apply Drawn0.step)⟩
end Go.Proofs.YtemgofomhjabpaaGreatDoor.Core
namespace Go.Proofs.YtemgofomhjabpaaGreatDoor.Core
open Go.RowKit Go.Proofs.YtemgofomhjabpaaGreatDoorW.PrintWords Go.Proofs.YtemgofomhjabpaaGreatDoorW.PrintLast Go.Proofs.YtemgofomhjabpaaGreatDoorW.PrintMore
attribute [local go_sem] max2_int min2_int max_two min_two max_three min_three max_four min_four   -- for this text's walks alone
set_option linter.unusedVariables false
set_option linter.unusedSimpArgs false
def gronx_Segments.j0 : Nat → List ByteArray → Int → Bool → Option (List ByteArray × Option Int)
  | 0, _, _, _ => none
  | k + 1, x4, x5, x16 => if x16 = true then ((errors_New.f (⟨#[101, 120, 112, 114, 32, 115, 104, 111, 117, 108, 100, 32, 99, 111, 110, 116, 97, 105, 110, 32, 53, 45, 55, 32, 115, 101, 103, 109, 101, 110, 116, 115, 32, 115, 101, 112, 97, 114, 97, 116, 101, 100, 32, 98, 121, 32, 115, 112, 97, 99, 101]⟩ : ByteArray)).bind fun t373 => (some ((([] : List ByteArray)), t373))) else (if x5 = 5 then ((some (([(⟨#[48]⟩ : ByteArray)] : List ByteArray) : List ByteArray)).bind fun y374 => (if y374.length + x4.length < 8796093022208 then (some ((y374 ++ x4), none)) else (none))) else (if x5 = 6 then (if 5 < (x4.length : Int) then ((gronx_zzHasYear.f k (rdOf ByteArray.empty x4 5)).bind fun t381 => (if t381 = true then ((some (([(⟨#[48]⟩ : ByteArray)] : List ByteArray) : List ByteArray)).bind fun y382 => (if y382.length + x4.length < 8796093022208 then (some ((y382 ++ x4), none)) else (none))) else (some (x4, none)))) else (none)) else (some (x4, none))))
def gronx_Segments.f (k : Nat) (a0 : ByteArray) : Option (List ByteArray × Option Int) := (gronx_normalize.f k a0).bind fun t367 => (if (t367.length : Int) < 5 then (gronx_Segments.j0 k t367 (t367.length : Int) true) else (gronx_Segments.j0 k t367 (t367.length : Int) (decide ((t367.length : Int) > 7))))
set_option maxHeartbeats 8000000 in
set_option maxRecDepth 100000 in
theorem gronx_Segments.calls (k : Nat) (a0 : ByteArray) (r1 : List ByteArray) (r2 : Option Int) (w : World) (h : gronx_Segments.f k a0 = some (r1, r2)) :
    Calls Tryz.prog 39 #[.string a0] w fun e w' => ∃ v0_ : Value, e = .returned (.tuple #[v0_, errW r2]) ∧ Kd.R Kd.string 9 w' w.heap.size (fun _ => True) v0_ r1 ∧ Below w.heap.size w w' := by
  have HB := Aside0.mk (Below.refl w.heap.size w)
  have H : ((gronx_normalize.f k a0).bind fun t367 => (if (t367.length : Int) < 5 then (gronx_Segments.j0 k t367 (t367.length : Int) true) else (gronx_Segments.j0 k t367 (t367.length : Int) (decide ((t367.length : Int) > 7))))) = some (r1, r2) := h
  clear h
  replace H := Option.bind_eq_some_iff.mp H
  obtain ⟨t367, A20, H⟩ := H
  replace H : (if (t367.length : Int) < 5 then (gronx_Segments.j0 k t367 (t367.length : Int) true) else (gronx_Segments.j0 k t367 (t367.length : Int) (decide ((t367.length : Int) > 7)))) = some (r1, r2) := H
  have A2 := Aside0.mk A20
  clear A20
  have HC3 := Aside0.mk H
  clear H
  go_enter Tryz.func39, Tryz.ntmps39
  go_upto_region 3 with (first | ((with_reducible refine gate_callee (f := 46) rfl ?_); refine goesL_ (some 8) rfl rfl Tryz.func46 (by kernel_rfl) rfl #[.string a0] rfl (by (try simp only [List.map_toArray, List.map_cons, List.map_nil]); first | done | rfl | (simp only [List.length_drop, List.length_take]; rfl)) ?_; (with_reducible refine (gronx_normalize.calls k a0 t367 _ A2.out).mono ?_); rintro e w4 ⟨v368, rfl, ho0, hb⟩; refine ⟨_, rfl, ?_⟩; have n0_ := Aside0.mk (Kd.R_lower ho0 (below_size (by repeat (first | (with_reducible first | exact HB.out | apply below_alloc | apply pw_below_drewN | apply below_drew1) | exact HB.out)))); have n1_ := Aside0.mk (below_step (by repeat (first | (with_reducible first | exact HB.out | apply below_alloc | apply pw_below_drewN | apply below_drew1) | exact HB.out)) hb); clear HB; have HO369 := n0_; have HB := n1_; clear n0_ n1_; (try clear hb); (try clear hb2); (try clear hk); (try clear hi); (try clear ho0); obtain ⟨Ao5, co5, eo5⟩ := Kd.R_slice HO369.out; subst eo5))
  (try simp only [Act.put, List.setIfInBounds_toArray, List.set_cons_zero, List.set_cons_succ])
  go_cut [16] (fun v16 wc => ∃ (kq : Nat) (x16_2 : Bool), v16 = .bool x16_2 ∧ Aside0 (gronx_Segments.j0 kq t367 (t367.length : Int) x16_2 = some (r1, r2)) ∧ Aside0 (kq ≤ k) ∧ Aside0 (Kd.R Kd.string 9 wc w.heap.size (fun _ => True) (.slice Ao5 t367.length co5) t367) ∧ Aside0 (Below w.heap.size w wc))
  case first =>
    have H := HC3.out
    clear HC3
    by_cases c6 : (t367.length : Int) < 5
    · rw [if_pos c6] at H
      have c6b0 : decide ((t367.length : Int) < 5) = true := decide_eq_true c6
      have c6b1 : decide (t367.length < 5) = true := decide_eq_true (by omega)
      clear c6
      (first | rw [c6b0] | (simp only [i64_w, i32_w]; rw [c6b0]) | skip)
      have H' := Aside0.mk H
      clear H
      go_wp2
      go_meet
      case rel => exact ⟨_, (true), (by first | rfl | (simp; done) | (simp [*]; done)), H', ⟨by first | omega | exact Nat.le_refl _⟩, ⟨by (with_reducible repeat (first | apply Kd.R_alloc | apply Kd.R_drewN | apply Kd.R_drew)); exact HO369.out⟩, ⟨by repeat (first | (with_reducible first | exact HB.out | apply below_alloc | apply pw_below_drewN | apply below_drew1) | exact HB.out)⟩⟩
    · rw [if_neg c6] at H
      have c6b0 : decide ((t367.length : Int) < 5) = false := decide_eq_false c6
      have c6b1 : decide (t367.length < 5) = false := decide_eq_false (by omega)
      clear c6
      (first | rw [c6b0] | (simp only [i64_w, i32_w]; rw [c6b0]) | skip)
      have H' := Aside0.mk H
      clear H
      go_wp2
      go_meet
      case rel => exact ⟨_, (decide ((t367.length : Int) > 7)), (by first | rfl | (simp; done) | (simp [*]; done)), H', ⟨by first | omega | exact Nat.le_refl _⟩, ⟨by (with_reducible repeat (first | apply Kd.R_alloc | apply Kd.R_drewN | apply Kd.R_drew)); exact HO369.out⟩, ⟨by repeat (first | (with_reducible first | exact HB.out | apply below_alloc | apply pw_below_drewN | apply below_drew1) | exact HB.out)⟩⟩
  case rest =>
    clear HC3
    try clear p2
    try clear c3
    try clear c4
    try clear c6
    try clear c6b0
    try clear c6b1
    obtain ⟨kq, x16_2, rfl, HA, HJ2, HO_4, HB⟩ := hcut
    cases kq with
    | zero => exact absurd HA.out (by simp [gronx_Segments.j0])
    | succ kj2 =>
      have H := HA.out
      clear HA
      simp only [gronx_Segments.j0] at H
      by_cases c7 : x16_2 = true
      · subst c7
        have H1 : ((errors_New.f (⟨#[101, 120, 112, 114, 32, 115, 104, 111, 117, 108, 100, 32, 99, 111, 110, 116, 97, 105, 110, 32, 53, 45, 55, 32, 115, 101, 103, 109, 101, 110, 116, 115, 32, 115, 101, 112, 97, 114, 97, 116, 101, 100, 32, 98, 121, 32, 115, 112, 97, 99, 101]⟩ : ByteArray)).bind fun t373 => (some ((([] : List ByteArray)), t373))) = some (r1, r2) := by rw [if_pos rfl] at H; exact H
        clear H
        have H := H1
        clear H1
        obtain ⟨y370, hy370⟩ : ∃ y_ : List ByteArray, y_ = (([] : List ByteArray)) := ⟨_, rfl⟩
        replace H : ((errors_New.f (⟨#[101, 120, 112, 114, 32, 115, 104, 111, 117, 108, 100, 32, 99, 111, 110, 116, 97, 105, 110, 32, 53, 45, 55, 32, 115, 101, 103, 109, 101, 110, 116, 115, 32, 115, 101, 112, 97, 114, 97, 116, 101, 100, 32, 98, 121, 32, 115, 112, 97, 99, 101]⟩ : ByteArray)).bind fun t373 => (some (y370, t373))) = some (r1, r2) := by first | (rw [hy370]; with_reducible exact H) | (have H2_ := (Option.bind_some _ _).symm.trans H; rw [hy370]; with_reducible exact H2_) | (have H2_ := (Option.bind_some _ _).symm.trans H; with_reducible exact H2_) | with_reducible exact H | (rw [hy370]; exact H) | exact H
        have Ny370 := Aside0.mk hy370
        clear hy370
        replace H := Option.bind_eq_some_iff.mp H
        obtain ⟨t373, A80, H⟩ := H
        replace H : (some (y370, t373)) = some (r1, r2) := H
        have A8 := Aside0.mk A80
        clear A80
        simp only [Option.some.injEq, Prod.mk.injEq] at H
        obtain ⟨rfl, rfl⟩ := H
        go_wp2_with (first | ((with_reducible refine gate_dst (N := 17) rfl ?_); refine Kd.R_lit Kd.string _ 9 ?hg (N := 17) ?hd (xs := ([] : List ByteArray)) (inner := []) (ok := fun _ => True) (okp := fun _ => True) ?hr ?hp (fun _ hk => hk) trivial (Below.refl _ _) (Nat.le_refl _) (by simp) ?_; (case hd => rfl); (case hg => rfl); (case hr => first | (go_simp; done) | (go_simp; rfl)); (case hp => exact (Reps.none _ _)); intro v371 w9 ho10 hb hg_ hnew_; clear hg_ hnew_; (first | rw [← Ny370.out] at ho10 | (simp only [Int.reduceToNat] at ho10; rw [← Ny370.out] at ho10)); have n0_ := Aside0.mk (Kd.R_elder' (by (with_reducible repeat (first | apply Kd.R_alloc | apply Kd.R_drewN | apply Kd.R_drew)); exact HO_4.out) (Kd.R_base ho10) hb); have n1_ := Aside0.mk (Kd.R_lower (Kd.R_new' ho10 (Kd.R_lt (by (with_reducible repeat (first | apply Kd.R_alloc | apply Kd.R_drewN | apply Kd.R_drew)); exact HO_4.out))) (below_size (by repeat (first | (with_reducible first | exact HB.out | apply below_alloc | apply pw_below_drewN | apply below_drew1) | exact HB.out)))); have n2_ := Aside0.mk (below_step (by repeat (first | (with_reducible first | exact HB.out | apply below_alloc | apply pw_below_drewN | apply below_drew1) | exact HB.out)) hb); clear HO_4; clear HB; have HO_4 := n0_; have HO372 := n1_; have HB := n2_; clear n0_ n1_ n2_; clear hb ho10) | ((with_reducible refine gate_callee (f := 47) rfl ?_); refine goesL_ (some 18) rfl rfl Tryz.func47 (by kernel_rfl) rfl #[.string (⟨#[101, 120, 112, 114, 32, 115, 104, 111, 117, 108, 100, 32, 99, 111, 110, 116, 97, 105, 110, 32, 53, 45, 55, 32, 115, 101, 103, 109, 101, 110, 116, 115, 32, 115, 101, 112, 97, 114, 97, 116, 101, 100, 32, 98, 121, 32, 115, 112, 97, 99, 101]⟩ : ByteArray)] rfl (by (try simp only [List.map_toArray, List.map_cons, List.map_nil]); first | done | rfl | (simp only [List.length_drop, List.length_take]; rfl)) ?_; (with_reducible refine (errors_New.calls (⟨#[101, 120, 112, 114, 32, 115, 104, 111, 117, 108, 100, 32, 99, 111, 110, 116, 97, 105, 110, 32, 53, 45, 55, 32, 115, 101, 103, 109, 101, 110, 116, 115, 32, 115, 101, 112, 97, 114, 97, 116, 101, 100, 32, 98, 121, 32, 115, 112, 97, 99, 101]⟩ : ByteArray) t373 _ A8.out).mono ?_); rintro e w11 ⟨rfl, hb⟩; refine ⟨_, rfl, ?_⟩; have n0_ := Aside0.mk (Kd.R_below (by (with_reducible repeat (first | apply Kd.R_alloc | apply Kd.R_drewN | apply Kd.R_drew)); exact HO_4.out) hb); have n1_ := Aside0.mk (Kd.R_below (by (with_reducible repeat (first | apply Kd.R_alloc | apply Kd.R_drewN | apply Kd.R_drew)); exact HO372.out) hb); have n2_ := Aside0.mk (below_step (by repeat (first | (with_reducible first | exact HB.out | apply below_alloc | apply pw_below_drewN | apply below_drew1) | exact HB.out)) hb); clear HO_4; clear HO372; clear HB; have HO_4 := n0_; have HO372 := n1_; have HB := n2_; clear n0_ n1_ n2_; (try clear hb); (try clear hb2); (try clear hk); (try clear hi); (try simp only [errW_none, errW_some])))
        go_ret2
        exact ⟨_, by first | rfl | (simp [errW_none, errW_some] <;> rfl) | (simp [*, errW_none, errW_some] <;> rfl), by (with_reducible repeat (first | apply Kd.R_alloc | apply Kd.R_drewN | apply Kd.R_drew)); exact Kd.R_mono HO372.out (fun _ hk => trivial), by repeat (first | (with_reducible first | exact HB.out | apply below_alloc | apply pw_below_drewN | apply below_drew1) | exact HB.out)⟩
      · replace c7 := Bool.eq_false_iff.mpr c7
        subst c7
        have H1 : (if (t367.length : Int) = 5 then ((some (([(⟨#[48]⟩ : ByteArray)] : List ByteArray) : List ByteArray)).bind fun y374 => (if y374.length + t367.length < 8796093022208 then (some ((y374 ++ t367), none)) else (none))) else (if (t367.length : Int) = 6 then (if 5 < (t367.length : Int) then ((gronx_zzHasYear.f kj2 (rdOf ByteArray.empty t367 5)).bind fun t381 => (if t381 = true then ((some (([(⟨#[48]⟩ : ByteArray)] : List ByteArray) : List ByteArray)).bind fun y382 => (if y382.length + t367.length < 8796093022208 then (some ((y382 ++ t367), none)) else (none))) else (some (t367, none)))) else (none)) else (some (t367, none)))) = some (r1, r2) := by rw [if_neg (show ¬ (false = true) by decide)] at H; exact H
        clear H
        have H := H1
        clear H1
        by_cases c12 : (t367.length : Int) = 5
        · rw [if_pos c12] at H
          have c12b0 : ((t367.length : Int) == 5) = true := beq_iff_eq.mpr c12
          have c12b1 : ((t367.length : Int) != 5) = false := bne_eq_false_iff_eq.mpr c12
          clear c12
          obtain ⟨y374, hy374⟩ : ∃ y_ : List ByteArray, y_ = (([(⟨#[48]⟩ : ByteArray)] : List ByteArray)) := ⟨_, rfl⟩
          replace H : (if y374.length + t367.length < 8796093022208 then (some ((y374 ++ t367), none)) else (none)) = some (r1, r2) := by first | (rw [hy374]; with_reducible exact H) | (have H2_ := (Option.bind_some _ _).symm.trans H; rw [hy374]; with_reducible exact H2_) | (have H2_ := (Option.bind_some _ _).symm.trans H; with_reducible exact H2_) | with_reducible exact H | (rw [hy374]; exact H) | exact H
          have Ny374 := Aside0.mk hy374
          clear hy374
          by_cases c13 : y374.length + t367.length < 8796093022208
          · rw [if_pos c13] at H
            have LMc13 := Aside0.mk c13
            clear c13
            obtain ⟨y377, hy377⟩ : ∃ y_ : List ByteArray, y_ = (y374 ++ t367) := ⟨_, rfl⟩
            replace H : (some (y377, none)) = some (r1, r2) := by first | (rw [hy377]; with_reducible exact H) | (have H2_ := (Option.bind_some _ _).symm.trans H; rw [hy377]; with_reducible exact H2_) | (have H2_ := (Option.bind_some _ _).symm.trans H; with_reducible exact H2_) | with_reducible exact H | (rw [hy377]; exact H) | exact H
            have Ny377 := Aside0.mk hy377
            clear hy377
            simp only [Option.some.injEq, Prod.mk.injEq] at H
            obtain ⟨rfl, rfl⟩ := H
            go_wp2_with (first | ((with_reducible refine gate_dst (N := 32) rfl ?_); refine Kd.R_lit Kd.string _ 9 ?hg (N := 32) ?hd (xs := ([(⟨#[48]⟩ : ByteArray)] : List ByteArray)) (inner := [.string (⟨#[48]⟩ : ByteArray)]) (ok := fun _ => True) (okp := fun _ => True) ?hr ?hp (fun _ hk => hk) trivial (Below.refl _ _) (Nat.le_refl _) (by simp) ?_; (case hd => rfl); (case hg => rfl); (case hr => first | (go_simp; done) | (go_simp; rfl)); (case hp => exact (Reps.one (show Kd.M Kd.string _ _ _ (⟨#[48]⟩ : ByteArray) [.string (⟨#[48]⟩ : ByteArray)] from rfl) (Reps.none _ _))); intro v375 w14 ho15 hb hg_ hnew_; clear hg_ hnew_; (first | rw [← Ny374.out] at ho15 | (simp only [Int.reduceToNat] at ho15; rw [← Ny374.out] at ho15)); have n0_ := Aside0.mk (Kd.R_elder' (by (with_reducible repeat (first | apply Kd.R_alloc | apply Kd.R_drewN | apply Kd.R_drew)); exact HO_4.out) (Kd.R_base ho15) hb); have n1_ := Aside0.mk (Kd.R_lower (Kd.R_new' ho15 (Kd.R_lt (by (with_reducible repeat (first | apply Kd.R_alloc | apply Kd.R_drewN | apply Kd.R_drew)); exact HO_4.out))) (below_size (by repeat (first | (with_reducible first | exact HB.out | apply below_alloc | apply pw_below_drewN | apply below_drew1) | exact HB.out)))); have n2_ := Aside0.mk (below_step (by repeat (first | (with_reducible first | exact HB.out | apply below_alloc | apply pw_below_drewN | apply below_drew1) | exact HB.out)) hb); clear HO_4; clear HB; have HO_4 := n0_; have HO376 := n1_; have HB := n2_; clear n0_ n1_ n2_; clear hb ho15) | ((with_reducible refine gate_builtin (b := .append) (xs := #[.tmp 32, .tmp 33]) rfl ?_); at_builtin; refine Kd.R_append_rows Kd.string (w0 := w) w.heap.size rfl (.tmp 32) (.tmp 33) 55 9 (.string ⟨#[]⟩) 16 rfl Tryz.underlying55 info9 rfl (by decide) (by omega) v375 y374 t367 _ _ _ (fun k_ => some k_ ≠ (.slice Ao5 t367.length co5 : Value).ownBlock) (fun _ => False) rfl rfl ?aO ?aR (fun _ _ h => h) (fun _ h => h.elim) ?aF ?aB ?aS ?aL ?_; (case aR => repeat (first | exact (Kd.R_reads' HO_4.out).2.2 | (with_reducible refine Kd.C_alloc ?_ _) | (with_reducible refine Kd.C_drewN ?_ _) | (with_reducible refine Kd.C_drew ?_))); (case aB => exact (by repeat (first | (with_reducible first | exact HB.out | apply below_alloc | apply pw_below_drewN | apply below_drew1) | exact HB.out))); (case aF => exact (fun k_ hk => Kd.fresh' (Kd.R_lt (by (with_reducible repeat (first | apply Kd.R_alloc | apply Kd.R_drewN | apply Kd.R_drew)); exact HO_4.out)) k_ hk)); (case aO => exact (by (with_reducible repeat (first | apply Kd.R_alloc | apply Kd.R_drewN | apply Kd.R_drew)); exact Kd.R_mono HO376.out (fun _ hk => hk.2))); (case aS => exact (below_size (by repeat (first | (with_reducible first | exact HB.out | apply below_alloc | apply pw_below_drewN | apply below_drew1) | exact HB.out)))); (case aL => have := LMc13.out; omega); intro v378 w16 ho hb hg hat; rw [← Ny377.out] at ho; have n0_ := Aside0.mk (Kd.R_after (ok := (fun _ => True)) (by (with_reducible repeat (first | apply Kd.R_alloc | apply Kd.R_drewN | apply Kd.R_drew)); exact HO_4.out) hg hat); have n1_ := Aside0.mk (hb); have n2_ := Aside0.mk (ho); clear HO_4; clear HB; clear HO376; have HO_4 := n0_; have HB := n1_; have HO379 := n2_; clear n0_ n1_ n2_; clear ho hb hg hat))
            go_ret2
            exact ⟨_, by first | rfl | (simp [errW_none, errW_some] <;> rfl) | (simp [*, errW_none, errW_some] <;> rfl), by (with_reducible repeat (first | apply Kd.R_alloc | apply Kd.R_drewN | apply Kd.R_drew)); exact Kd.R_mono HO379.out (fun _ hk => trivial), by repeat (first | (with_reducible first | exact HB.out | apply below_alloc | apply pw_below_drewN | apply below_drew1) | exact HB.out)⟩
          · rw [if_neg c13] at H
            exact absurd H (by simp)
        · rw [if_neg c12] at H
          have c12b0 : ((t367.length : Int) == 5) = false := beq_eq_false_iff_ne.mpr c12
          have c12b1 : ((t367.length : Int) != 5) = true := bne_iff_ne.mpr c12
          by_cases c17 : (t367.length : Int) = 6
          · rw [if_pos c17] at H
            have c17b0 : ((t367.length : Int) == 6) = true := beq_iff_eq.mpr c17
            have c17b1 : ((t367.length : Int) != 6) = false := bne_eq_false_iff_eq.mpr c17
            clear c17
            by_cases c18 : 5 < (t367.length : Int)
            · rw [if_pos c18] at H
              have c18b0 : decide (5 < (t367.length : Int)) = true := decide_eq_true c18
              have c18b1 : decide (5 < t367.length) = true := decide_eq_true (by omega)
              clear c18
              replace H := Option.bind_eq_some_iff.mp H
              obtain ⟨t381, A190, H⟩ := H
              replace H : (if t381 = true then ((some (([(⟨#[48]⟩ : ByteArray)] : List ByteArray) : List ByteArray)).bind fun y382 => (if y382.length + t367.length < 8796093022208 then (some ((y382 ++ t367), none)) else (none))) else (some (t367, none))) = some (r1, r2) := H
              have A19 := Aside0.mk A190
              clear A190
              by_cases c20 : t381 = true
              · subst c20
                have H1 : ((some (([(⟨#[48]⟩ : ByteArray)] : List ByteArray) : List ByteArray)).bind fun y382 => (if y382.length + t367.length < 8796093022208 then (some ((y382 ++ t367), none)) else (none))) = some (r1, r2) := by rw [if_pos rfl] at H; exact H
                clear H
                have H := H1
                clear H1
                obtain ⟨y382, hy382⟩ : ∃ y_ : List ByteArray, y_ = (([(⟨#[48]⟩ : ByteArray)] : List ByteArray)) := ⟨_, rfl⟩
                replace H : (if y382.length + t367.length < 8796093022208 then (some ((y382 ++ t367), none)) else (none)) = some (r1, r2) := by first | (rw [hy382]; with_reducible exact H) | (have H2_ := (Option.bind_some _ _).symm.trans H; rw [hy382]; with_reducible exact H2_) | (have H2_ := (Option.bind_some _ _).symm.trans H; with_reducible exact H2_) | with_reducible exact H | (rw [hy382]; exact H) | exact H
                have Ny382 := Aside0.mk hy382
                clear hy382
                by_cases c21 : y382.length + t367.length < 8796093022208
                · rw [if_pos c21] at H
                  have LMc21 := Aside0.mk c21
                  clear c21
                  obtain ⟨y385, hy385⟩ : ∃ y_ : List ByteArray, y_ = (y382 ++ t367) := ⟨_, rfl⟩
                  replace H : (some (y385, none)) = some (r1, r2) := by first | (rw [hy385]; with_reducible exact H) | (have H2_ := (Option.bind_some _ _).symm.trans H; rw [hy385]; with_reducible exact H2_) | (have H2_ := (Option.bind_some _ _).symm.trans H; with_reducible exact H2_) | with_reducible exact H | (rw [hy385]; exact H) | exact H
                  have Ny385 := Aside0.mk hy385
                  clear hy385
                  simp only [Option.some.injEq, Prod.mk.injEq] at H
                  obtain ⟨rfl, rfl⟩ := H
                  have p380 : 0 ≤ (5 : Int) := (by omega)
                  have q380 : 5 < (t367.length : Int) := of_decide_eq_true (by first | (with_reducible assumption) | assumption)
                  obtain ⟨ad380, e380, hx380_0⟩ := Kd.at_string (Kd.R_reads' HO_4.out).2.2 5 p380 q380
                  cases e380
                  (try simp only [show (5 : Int).toNat = 5 from rfl, Nat.reduceMul, Nat.reduceEqDiff, Go.Addr.add, ↓reduceIte] at hx380_0)
                  have qi380 : (5 < t367.length) = True := eq_true (by omega)
                  (try rw [show ((5 : Int)).toNat = 5 from rfl] at hx380_0)
                  replace p380 := eq_true p380
                  replace q380 := eq_true q380
                  go_wp2_with (first | (go_at_call 48; (with_reducible refine (gronx_zzHasYear.calls kj2 (rdOf ByteArray.empty t367 5) true _ A19.out).mono ?_); rintro e w' ⟨rfl, ⟨nd, rfl⟩⟩) | ((with_reducible refine gate_dst (N := 32) rfl ?_); refine Kd.R_lit Kd.string _ 9 ?hg (N := 32) ?hd (xs := ([(⟨#[48]⟩ : ByteArray)] : List ByteArray)) (inner := [.string (⟨#[48]⟩ : ByteArray)]) (ok := fun _ => True) (okp := fun _ => True) ?hr ?hp (fun _ hk => hk) trivial (Below.refl _ _) (Nat.le_refl _) (by simp) ?_; (case hd => rfl); (case hg => rfl); (case hr => first | (go_simp; done) | (go_simp; rfl)); (case hp => exact (Reps.one (show Kd.M Kd.string _ _ _ (⟨#[48]⟩ : ByteArray) [.string (⟨#[48]⟩ : ByteArray)] from rfl) (Reps.none _ _))); intro v383 w22 ho23 hb hg_ hnew_; clear hg_ hnew_; (first | rw [← Ny382.out] at ho23 | (simp only [Int.reduceToNat] at ho23; rw [← Ny382.out] at ho23)); have n0_ := Aside0.mk (Kd.R_elder' (by (with_reducible repeat (first | apply Kd.R_alloc | apply Kd.R_drewN | apply Kd.R_drew)); exact HO_4.out) (Kd.R_base ho23) hb); have n1_ := Aside0.mk (Kd.R_lower (Kd.R_new' ho23 (Kd.R_lt (by (with_reducible repeat (first | apply Kd.R_alloc | apply Kd.R_drewN | apply Kd.R_drew)); exact HO_4.out))) (below_size (by repeat (first | (with_reducible first | exact HB.out | apply below_alloc | apply pw_below_drewN | apply below_drew1) | exact HB.out)))); have n2_ := Aside0.mk (below_step (by repeat (first | (with_reducible first | exact HB.out | apply below_alloc | apply pw_below_drewN | apply below_drew1) | exact HB.out)) hb); clear HO_4; clear HB; have HO_4 := n0_; have HO384 := n1_; have HB := n2_; clear n0_ n1_ n2_; clear hb ho23) | ((with_reducible refine gate_builtin (b := .append) (xs := #[.tmp 32, .tmp 33]) rfl ?_); at_builtin; refine Kd.R_append_rows Kd.string (w0 := w) w.heap.size rfl (.tmp 32) (.tmp 33) 55 9 (.string ⟨#[]⟩) 16 rfl Tryz.underlying55 info9 rfl (by decide) (by omega) v383 y382 t367 _ _ _ (fun k_ => some k_ ≠ (.slice (some ad380) t367.length co5 : Value).ownBlock) (fun _ => False) rfl rfl ?aO ?aR (fun _ _ h => h) (fun _ h => h.elim) ?aF ?aB ?aS ?aL ?_; (case aR => repeat (first | exact (Kd.R_reads' HO_4.out).2.2 | (with_reducible refine Kd.C_alloc ?_ _) | (with_reducible refine Kd.C_drewN ?_ _) | (with_reducible refine Kd.C_drew ?_))); (case aB => exact (by repeat (first | (with_reducible first | exact HB.out | apply below_alloc | apply pw_below_drewN | apply below_drew1) | exact HB.out))); (case aF => exact (fun k_ hk => Kd.fresh' (Kd.R_lt (by (with_reducible repeat (first | apply Kd.R_alloc | apply Kd.R_drewN | apply Kd.R_drew)); exact HO_4.out)) k_ hk)); (case aO => exact (by (with_reducible repeat (first | apply Kd.R_alloc | apply Kd.R_drewN | apply Kd.R_drew)); exact Kd.R_mono HO384.out (fun _ hk => hk.2))); (case aS => exact (below_size (by repeat (first | (with_reducible first | exact HB.out | apply below_alloc | apply pw_below_drewN | apply below_drew1) | exact HB.out)))); (case aL => have := LMc21.out; omega); intro v386 w24 ho hb hg hat; rw [← Ny385.out] at ho; have n0_ := Aside0.mk (Kd.R_after (ok := (fun _ => True)) (by (with_reducible repeat (first | apply Kd.R_alloc | apply Kd.R_drewN | apply Kd.R_drew)); exact HO_4.out) hg hat); have n1_ := Aside0.mk (hb); have n2_ := Aside0.mk (ho); clear HO_4; clear HB; clear HO384; have HO_4 := n0_; have HB := n1_; have HO387 := n2_; clear n0_ n1_ n2_; clear ho hb hg hat))
                  go_ret2
                  exact ⟨_, by first | rfl | (simp [errW_none, errW_some] <;> rfl) | (simp [*, errW_none, errW_some] <;> rfl), by (with_reducible repeat (first | apply Kd.R_alloc | apply Kd.R_drewN | apply Kd.R_drew)); exact Kd.R_mono HO387.out (fun _ hk => trivial), by repeat (first | (with_reducible first | exact HB.out | apply below_alloc | apply pw_below_drewN | apply below_drew1) | exact HB.out)⟩
                · rw [if_neg c21] at H
                  exact absurd H (by simp)
              · replace c20 := Bool.eq_false_iff.mpr c20
                subst c20
                have H1 : (some (t367, none)) = some (r1, r2) := by rw [if_neg (show ¬ (false = true) by decide)] at H; exact H
                clear H
                have H := H1
                clear H1
                simp only [Option.some.injEq, Prod.mk.injEq] at H
                obtain ⟨rfl, rfl⟩ := H
                have p380 : 0 ≤ (5 : Int) := (by omega)
                have q380 : 5 < (t367.length : Int) := of_decide_eq_true (by first | (with_reducible assumption) | assumption)
                obtain ⟨ad380, e380, hx380_0⟩ := Kd.at_string (Kd.R_reads' HO_4.out).2.2 5 p380 q380
                cases e380
                (try simp only [show (5 : Int).toNat = 5 from rfl, Nat.reduceMul, Nat.reduceEqDiff, Go.Addr.add, ↓reduceIte] at hx380_0)
                have qi380 : (5 < t367.length) = True := eq_true (by omega)
                (try rw [show ((5 : Int)).toNat = 5 from rfl] at hx380_0)
                replace p380 := eq_true p380
                replace q380 := eq_true q380
                go_wp2_with (first | (go_at_call 48; (with_reducible refine (gronx_zzHasYear.calls kj2 (rdOf ByteArray.empty t367 5) false _ A19.out).mono ?_); rintro e w' ⟨rfl, ⟨nd, rfl⟩⟩))
                go_ret2
                exact ⟨_, by first | rfl | (simp [errW_none, errW_some] <;> rfl) | (simp [*, errW_none, errW_some] <;> rfl), by (with_reducible repeat (first | apply Kd.R_alloc | apply Kd.R_drewN | apply Kd.R_drew)); exact HO_4.out, by repeat (first | (with_reducible first | exact HB.out | apply below_alloc | apply pw_below_drewN | apply below_drew1) | exact HB.out)⟩
            · rw [if_neg c18] at H
              exact absurd H (by simp)
          · rw [if_neg c17] at H
            have c17b0 : ((t367.length : Int) == 6) = false := beq_eq_false_iff_ne.mpr c17
            have c17b1 : ((t367.length : Int) != 6) = true := bne_iff_ne.mpr c17
            simp only [Option.some.injEq, Prod.mk.injEq] at H
            obtain ⟨rfl, rfl⟩ := H
            go_wp2
            go_ret2
            exact ⟨_, by first | rfl | (simp [errW_none, errW_some] <;> rfl) | (simp [*, errW_none, errW_some] <;> rfl), by (with_reducible repeat (first | apply Kd.R_alloc | apply Kd.R_drewN | apply Kd.R_drew)); exact HO_4.out, by repeat (first | (with_reducible first | exact HB.out | apply below_alloc | apply pw_below_drewN | apply below_drew1) | exact HB.out)⟩
end Go.Proofs.YtemgofomhjabpaaGreatDoor.Core
namespace Go.Proofs.YtemgofomhjabpaaGreatDoor.Core
open Go.RowKit Go.Proofs.YtemgofomhjabpaaGreatDoorW.PrintWords Go.Proofs.YtemgofomhjabpaaGreatDoorW.PrintLast Go.Proofs.YtemgofomhjabpaaGreatDoorW.PrintMore
attribute [local go_sem] max2_int min2_int max_two min_two max_three min_three max_four min_four   -- for this text's walks alone
set_option linter.unusedVariables false
set_option linter.unusedSimpArgs false
end Go.Proofs.YtemgofomhjabpaaGreatDoor.Core
namespace Go.Proofs.YtemgofomhjabpaaGreatDoor.Core
open Go.RowKit Go.Proofs.YtemgofomhjabpaaGreatDoorW.PrintWords
def idxL (m : List UInt8) : List UInt8 → Nat → Int
  | [], _ => -1
  | b :: t, i => if m.length ≤ t.length + 1 then (if (b :: t).take m.length = m then (i : Int) else idxL m t (i + 1)) else -1
theorem zzIndex_from (l m : List UInt8) (hm : m ≠ []) (hl : l.length < 4611686018427387904) (hml : m.length < 4611686018427387904) :
    ∀ (rest : List UInt8) (i : Nat), l.drop i = rest → i ≤ l.length → Ev (fun k => gronx_zzIndex.l0 k (B l) (B m) (i : Int)) (idxL m rest i) := by
  have hm0 : 0 < m.length := List.length_pos_iff.2 hm
  intro rest
  induction rest with
  | nil =>
    intro i hi hil
    have hlen : l.length ≤ i := List.drop_eq_nil_iff.1 hi
    refine Ev.done fun k => ?_
    simp only [gronx_zzIndex.l0, B_size]
    rw [wrap64_id (by omega) (by omega), if_neg (by omega)]
    rfl
  | cons b t ih =>
    intro i hi hil
    have hlen : t.length + 1 = l.length - i := by have := congrArg List.length hi; simpa using this.symm
    unfold idxL
    by_cases h1 : m.length ≤ t.length + 1
    · rw [if_pos h1]
      have hcut : (B l).extract ((i : Int)).toNat (((i : Int) + (m.length : Int))).toNat = B ((b :: t).take m.length) := by
        rw [B_cut, show ((i : Int)).toNat = i by omega, hi, show (((i : Int) + (m.length : Int))).toNat - i = m.length by omega]
      by_cases h2 : (b :: t).take m.length = m
      · rw [if_pos h2]
        refine Ev.done fun k => ?_
        simp only [gronx_zzIndex.l0, B_size]
        rw [wrap64_id (by omega) (by omega), if_pos (by omega), if_pos (by omega), if_pos (by omega), hcut, B_list, B_list, if_pos h2]
      · rw [if_neg h2]
        refine Ev.step (f := fun k => gronx_zzIndex.l0 k (B l) (B m) ((i + 1 : Nat) : Int)) (fun k => ?_) (ih (i + 1) ?_ (by omega))
        · simp only [gronx_zzIndex.l0, B_size]
          rw [wrap64_id (by omega) (by omega), if_pos (by omega), if_pos (by omega), if_pos (by omega), hcut, B_list, B_list, if_neg h2, wrap64_nat i (by omega)]
        · rw [← List.drop_drop, hi]; rfl
    · rw [if_neg h1]
      refine Ev.done fun k => ?_
      simp only [gronx_zzIndex.l0, B_size]
      rw [wrap64_id (by omega) (by omega), if_neg (by omega)]
theorem zzIndex_ev (l m : List UInt8) (hm : m ≠ []) (hl : l.length < 4611686018427387904) (hml : m.length < 4611686018427387904) :
    Ev (fun k => gronx_zzIndex.f k (B l) (B m)) (idxL m l 0) := zzIndex_from l m hm hl hml l 0 rfl (Nat.zero_le _)
theorem idxL_one_none (c : UInt8) (l : List UInt8) (h : c ∉ l) (i : Nat) : idxL [c] l i = -1 := by
  induction l generalizing i with
  | nil => rfl
  | cons b t ih =>
    unfold idxL
    rw [if_pos (by simp), if_neg (by simp; intro e; exact h (by simp [e])), ih (fun e => h (by simp [e]))]
theorem idxL_one_at (c : UInt8) (p r : List UInt8) (h : c ∉ p) (i : Nat) : idxL [c] (p ++ c :: r) i = ((i + p.length : Nat) : Int) := by
  induction p generalizing i with
  | nil => simp [idxL]
  | cons b t ih =>
    rw [List.cons_append]
    unfold idxL
    rw [if_pos (by simp), if_neg (by simp; intro e; exact h (by simp [e])), ih (fun e => h (by simp [e]))]
    simp
    omega
def splitL (c : UInt8) : List UInt8 → List (List UInt8)
  | [] => [[]]
  | b :: t => if b = c then [] :: splitL c t else match splitL c t with | [] => [[b]] | h :: r => (b :: h) :: r
theorem splitL_none (c : UInt8) (l : List UInt8) (h : c ∉ l) : splitL c l = [l] := by
  induction l with
  | nil => rfl
  | cons b t ih => rw [splitL, if_neg (fun e => h (by simp [e])), ih (fun e => h (by simp [e]))]
theorem splitL_at (c : UInt8) (p r : List UInt8) (h : c ∉ p) : splitL c (p ++ c :: r) = p :: splitL c r := by
  induction p with
  | nil => simp [splitL]
  | cons b t ih => rw [List.cons_append, splitL, if_neg (fun e => h (by simp [e])), ih (fun e => h (by simp [e]))]
theorem mem_cut {c : UInt8} {l : List UInt8} (h : c ∈ l) : ∃ p r, l = p ++ c :: r ∧ c ∉ p := by
  induction l with
  | nil => cases h
  | cons b t ih =>
    by_cases e : b = c
    · exact ⟨[], t, by simp [e], by simp⟩
    · obtain ⟨p, r, rfl, hp⟩ := ih (by rcases List.mem_cons.1 h with h | h; exact absurd h.symm e; exact h)
      exact ⟨b :: p, r, rfl, by simp [hp, Ne.symm e]⟩
theorem zzSplit_from (c : UInt8) : ∀ (n : Nat) (l : List UInt8) (acc : List ByteArray), l.length ≤ n → l.length + acc.length < 8796093022208 →
    Ev (fun k => gronx_zzSplit.l0 k (B l) (B [c]) acc) (acc ++ (splitL c l).map B) := by
  intro n
  induction n with
  | zero =>
    intro l acc hn hb
    obtain rfl : l = [] := List.eq_nil_of_length_eq_zero (by omega)
    have hix := zzIndex_ev [] [c] (by simp) (by simp) (by simp)
    refine Ev.step (f := fun k => (gronx_zzIndex.f k (B []) (B [c])).bind fun t => if t < 0 then some (acc ++ [B []]) else none) (fun k => ?_) (Ev.bind hix (Ev.const (by simp [idxL, splitL])))
    simp only [gronx_zzSplit.l0]
    cases gronx_zzIndex.f k (B []) (B [c]) with
    | none => rfl
    | some t =>
      simp only [Option.bind_some]
      by_cases h : t < 0
      · rw [if_pos h, if_pos h, if_pos (by omega)]
      · rw [if_neg h, if_neg h, if_pos (by omega)]
        by_cases h2 : t ≤ ((B []).size : Int)
        · have h3 : t = 0 := by rw [B_size] at h2; simp at h2; omega
          subst h3
          rw [if_pos h2, if_pos (by omega), B_size, B_size, wrap64_id (by simp) (by simp), if_pos (by simp), if_neg (by simp)]
        · rw [if_neg h2]
  | succ n ih =>
    intro l acc hn hb
    by_cases hc : c ∈ l
    · obtain ⟨p, r, rfl, hp⟩ := mem_cut hc
      have hlen : (p ++ c :: r).length = p.length + 1 + r.length := by simp; omega
      have hix := zzIndex_ev (p ++ c :: r) [c] (by simp) (by omega) (by simp)
      rw [idxL_one_at c p r hp] at hix
      rw [splitL_at c p r hp]
      have hrec := ih r (acc ++ [B p]) (by omega) (by simp; omega)
      refine Ev.step (f := fun k => (gronx_zzIndex.f k (B (p ++ c :: r)) (B [c])).bind fun t => if t = ((0 + p.length : Nat) : Int) then gronx_zzSplit.l0 k (B r) (B [c]) (acc ++ [B p]) else gronx_zzSplit.l0 (k + 1) (B (p ++ c :: r)) (B [c]) acc) (fun k => ?_) (Ev.bind hix ?_)
      · cases hg : gronx_zzIndex.f k (B (p ++ c :: r)) (B [c]) with
        | none => simp only [gronx_zzSplit.l0, hg]; rfl
        | some t =>
          simp only [Option.bind_some]
          by_cases h : t = ((0 + p.length : Nat) : Int)
          · rw [if_pos h]
            subst h
            simp only [gronx_zzSplit.l0, hg, Option.bind_some, B_size]
            rw [if_neg (by omega), if_pos (by omega), if_pos (by rw [hlen]; omega), if_pos (by omega), wrap64_id (by simp; omega) (by simp; omega), if_pos (by simp; omega), if_pos (by rw [hlen]; simp; omega)]
            congr 1
            · rw [B_cut]
              congr 1
              simp only [Nat.zero_add, List.length_singleton]
              rw [show ((p.length : Int) + ((1 : Nat) : Int)).toNat = p.length + 1 by omega, List.drop_append, List.drop_eq_nil_of_le (by omega), show p.length + 1 - p.length = 1 by omega]
              simp only [List.nil_append, List.drop_succ_cons, List.drop_zero]
              exact List.take_of_length_le (by omega)
            · rw [B_cut]
              congr 3
              simp
          · rw [if_neg h]
      · refine Ev.congr (f := fun k => gronx_zzSplit.l0 k (B r) (B [c]) (acc ++ [B p])) (fun k => by rw [if_pos rfl]) ?_
        simpa using hrec
    · have hix := zzIndex_ev l [c] (by simp) (by omega) (by simp)
      rw [idxL_one_none c l hc] at hix
      rw [splitL_none c l hc]
      refine Ev.step (f := fun k => (gronx_zzIndex.f k (B l) (B [c])).bind fun t => if t < 0 then some (acc ++ [B l]) else gronx_zzSplit.l0 (k + 1) (B l) (B [c]) acc) (fun k => ?_) (Ev.bind hix (Ev.const (by simp)))
      cases hg : gronx_zzIndex.f k (B l) (B [c]) with
      | none => simp only [gronx_zzSplit.l0, hg]; rfl
      | some t =>
        simp only [Option.bind_some]
        by_cases h : t < 0
        · rw [if_pos h]; simp only [gronx_zzSplit.l0, hg, Option.bind_some]; rw [if_pos h, if_pos (by omega)]
        · rw [if_neg h]
theorem zzSplit_ev (c : UInt8) (l : List UInt8) (h : l.length < 8796093022208) : Ev (fun k => gronx_zzSplit.f k (B l) (B [c])) ((splitL c l).map B) := by
  have := zzSplit_from c l.length l [] (Nat.le_refl _) (by simpa using h)
  rw [List.nil_append] at this
  exact this
theorem zzReplace_no (l m q : List UInt8) (hm : m ≠ []) (hml : m.length < 4611686018427387904) (h : idxL m l 0 = -1) (hl : l.length < 140737488355328) :
    Ev (fun k => gronx_zzReplaceAll.f k (B l) (B m) (B q)) (B l) := by
  have hix := zzIndex_ev l m hm (by omega) hml
  rw [h] at hix
  unfold gronx_zzReplaceAll.f
  refine Ev.step (f := fun k => (gronx_zzIndex.f k (B l) (B m)).bind fun t => if t < 0 then some (B l) else gronx_zzReplaceAll.l0 (k + 1) (B l) (B m) (B q) []) (fun k => ?_) (Ev.bind hix (Ev.const (by simp)))
  cases hg : gronx_zzIndex.f k (B l) (B m) with
  | none => simp only [gronx_zzReplaceAll.l0, hg]; rfl
  | some t =>
    simp only [Option.bind_some]
    by_cases h : t < 0
    · rw [if_pos h]; simp only [gronx_zzReplaceAll.l0, hg, Option.bind_some]; rw [if_pos h, if_pos (by simp [B_size]; omega), List.nil_append, B_bytesOf, strOfNums_B]
    · rw [if_neg h]
theorem zzTrim_ev (l : List UInt8) (hl : l.length < 4611686018427387904) (hne : l ≠ []) (h0 : ∀ b, l.head? = some b → b ≠ 32 ∧ b ≠ 9) (h1 : ∀ b, l.getLast? = some b → b ≠ 32 ∧ b ≠ 9) :
    Ev (fun k => gronx_zzTrim.f k (B l)) (B l) := by
  have hpos : 0 < l.length := List.length_pos_iff.2 hne
  have hU : ∀ b : UInt8, b ≠ 32 → ¬ (b.toNat : Int) = 32 := fun b hb e => hb (UInt8.toNat_inj.1 (show b.toNat = 32 by omega))
  have hV : ∀ b : UInt8, b ≠ 9 → ¬ (b.toNat : Int) = 9 := fun b hb e => hb (UInt8.toNat_inj.1 (show b.toNat = 9 by omega))
  have e0 : bt (B l) 0 = ((l[0]'hpos).toNat : Int) := bt_B_at l 0 hpos
  have e1 : bt (B l) ((l.length : Int) - 1) = ((l[l.length - 1]'(by omega)).toNat : Int) := by
    have := bt_B_at l (l.length - 1) (by omega)
    rwa [show ((l.length - 1 : Nat) : Int) = (l.length : Int) - 1 by omega] at this
  have a0 := h0 (l[0]'hpos) (by rw [List.head?_eq_getElem?, List.getElem?_eq_getElem hpos])
  have a1 := h1 (l[l.length - 1]'(by omega)) (by rw [List.getLast?_eq_getElem?, List.getElem?_eq_getElem (by omega)])
  unfold gronx_zzTrim.f
  refine Ev.step (f := fun k => gronx_zzTrim.j1 k (B l)) (fun k => ?_) (Ev.step (f := fun k => gronx_zzTrim.l1 k (B l)) (fun k => by simp only [gronx_zzTrim.j1]) (Ev.done fun k => ?_))
  · simp only [gronx_zzTrim.l0, B_size]
    rw [if_pos (by omega), if_pos (by omega), e0, if_neg (hU _ a0.1), if_neg (hV _ a0.2)]
  · simp only [gronx_zzTrim.l1, B_size]
    rw [if_pos (by omega), wrap64_id (by omega) (by omega), if_pos (by omega), if_pos (by omega), e1, if_neg (hU _ a1.1), if_neg (hV _ a1.2)]
def noDbl : List UInt8 → Bool
  | a :: b :: t => !(a == 32 && b == 32) && noDbl (b :: t)
  | _ => true
theorem noDbl_idx (l : List UInt8) (h : noDbl l = true) (i : Nat) : idxL [32, 32] l i = -1 := by
  induction l generalizing i with
  | nil => rfl
  | cons a t ih =>
    unfold idxL
    cases t with
    | nil => rw [if_neg (by simp)]
    | cons b t =>
      simp only [noDbl, Bool.and_eq_true, Bool.not_eq_true', Bool.and_eq_false_iff] at h
      rw [if_pos (by simp), if_neg ?_, ih h.2]
      intro e
      simp at e
      rcases h.1 with h1 | h1
      · simp [e.1] at h1
      · simp [e.2] at h1
def plainB (b : UInt8) : Bool := b == 32 || (decide (33 ≤ b.toNat) && decide (b.toNat ≤ 63))
theorem noDbl_at (l : List UInt8) (h : noDbl l = true) (i : Nat) (h1 : i + 1 < l.length) (e : l[i]'(by omega) = 32) : l[i + 1] ≠ 32 := by
  induction l generalizing i with
  | nil => simp at h1
  | cons a t ih =>
    cases t with
    | nil => simp at h1
    | cons b t =>
      simp only [noDbl, Bool.and_eq_true, Bool.not_eq_true', Bool.and_eq_false_iff] at h
      cases i with
      | zero =>
        simp at e
        subst e
        intro e2
        simp at e2
        subst e2
        simp at h
      | succ i => exact ih h.2 i (by simpa using h1) (by simpa using e)
theorem zzSpaces_from (l : List UInt8) (hl : l.length < 140737488355328) (hd : noDbl l = true) (hp : ∀ b ∈ l, plainB b = true) :
    ∀ (d i : Nat), l.length - i = d → i ≤ l.length → ∀ (inn : Bool), (inn = true → ∃ h : 0 < i ∧ i ≤ l.length, l[i - 1]'(by omega) = 32) →
      Ev (fun k => gronx_zzSpaces.l0 k (B l) ((l.take i).map fun b => (b.toNat : Int)) inn (i : Int)) (B l) := by
  intro d
  induction d with
  | zero =>
    intro i hd' hi inn hin
    refine Ev.done fun k => ?_
    simp only [gronx_zzSpaces.l0, B_size]
    rw [if_neg (by omega), strOfNums_B, List.take_of_length_le (by omega)]
  | succ d ih =>
    intro i hd' hi inn hin
    have hlt : i < l.length := by omega
    have hb := hp _ (List.getElem_mem hlt)
    have hbt := bt_B_at l i hlt
    have htake : (l.take (i + 1)).map (fun b => (b.toNat : Int)) = (l.take i).map (fun b => (b.toNat : Int)) ++ [(l[i].toNat : Int)] := by
      rw [List.take_succ_eq_append_getElem hlt, List.map_append]; rfl
    by_cases hs : l[i] = 32
    · have hin0 : inn = false := by
        cases inn with
        | false => rfl
        | true =>
          obtain ⟨hh, e⟩ := hin rfl
          have := noDbl_at l hd (i - 1) (by omega) e
          simp only [show i - 1 + 1 = i by omega] at this
          exact absurd hs this
      subst hin0
      refine Ev.step (f := fun k => gronx_zzSpaces.j1 k (B l) ((l.take i).map fun b => (b.toNat : Int)) false (i : Int) true) (fun k => ?_) ?_
      · simp only [gronx_zzSpaces.l0, B_size]
        rw [if_pos (by omega), if_pos (by omega), hbt, hs, if_pos (by rfl)]
        rfl
      · refine Ev.step (f := fun k => gronx_zzSpaces.l0 k (B l) ((l.take (i + 1)).map fun b => (b.toNat : Int)) true ((i + 1 : Nat) : Int)) (fun k => ?_) (ih (i + 1) (by omega) (by omega) true (fun _ => ⟨⟨by omega, by omega⟩, by simpa using hs⟩))
        simp only [gronx_zzSpaces.j1]
        rw [if_pos trivial, if_neg (by simp), if_pos (by simp; omega), wrap64_nat i (by omega), htake, hs]
        rfl
    · have hge : 33 ≤ l[i].toNat ∧ l[i].toNat ≤ 63 := by
        simp only [plainB, Bool.or_eq_true, beq_iff_eq, Bool.and_eq_true, decide_eq_true_eq] at hb
        rcases hb with hb | hb
        · exact absurd hb hs
        · exact hb
      refine Ev.step (f := fun k => gronx_zzSpaces.j1 k (B l) ((l.take i).map fun b => (b.toNat : Int)) inn (i : Int) false) (fun k => ?_) ?_
      · simp only [gronx_zzSpaces.l0, B_size]
        rw [if_pos (by omega), if_pos (by omega), hbt, if_neg (by omega), if_neg (by omega), if_neg (by omega), if_neg (by omega), show ((l[i].toNat : Int) == 13) = false by simp; omega]
      · refine Ev.step (f := fun k => gronx_zzSpaces.l0 k (B l) ((l.take (i + 1)).map fun b => (b.toNat : Int)) false ((i + 1 : Nat) : Int)) (fun k => ?_) (ih (i + 1) (by omega) (by omega) false (by simp))
        simp only [gronx_zzSpaces.j1, B_size]
        rw [if_neg (by simp), if_pos (by omega), if_pos (by omega), if_pos (by simp; omega), wrap64_nat i (by omega), htake, hbt]
theorem zzSpaces_ev (l : List UInt8) (hl : l.length < 140737488355328) (hd : noDbl l = true) (hp : ∀ b ∈ l, plainB b = true) : Ev (fun k => gronx_zzSpaces.f k (B l)) (B l) := by
  have := zzSpaces_from l hl hd hp l.length 0 (by simp) (by omega) false (by simp)
  simpa [gronx_zzSpaces.f] using this
theorem literal_no (l : List UInt8) (h : ∀ b ∈ l, b.toNat ≤ 63) : gronx_literal.f (B l) = some (B []) := by
  have hne : ∀ (c d e : UInt8), 65 ≤ c.toNat → ¬ l = [c, d, e] := by
    intro c d e hc heq
    have := h c (by simp [heq])
    omega
  unfold gronx_literal.f
  simp only [B_list]
  repeat rw [if_neg (hne _ _ _ (by decide))]
  rfl
theorem zzLiterals_from (l : List UInt8) (hl : l.length < 140737488355328) (hp : ∀ b ∈ l, b.toNat ≤ 63) :
    ∀ (d i : Nat), l.length - i = d → i ≤ l.length → Ev (fun k => gronx_zzLiterals.l0 k (B l) ((l.take i).map fun b => (b.toNat : Int)) (i : Int)) (B l) := by
  intro d
  induction d with
  | zero =>
    intro i hd' hi
    refine Ev.done fun k => ?_
    simp only [gronx_zzLiterals.l0, B_size]
    rw [if_neg (by omega), strOfNums_B, List.take_of_length_le (by omega)]
  | succ d ih =>
    intro i hd' hi
    have hlt : i < l.length := by omega
    have hbt := bt_B_at l i hlt
    have htake : (l.take (i + 1)).map (fun b => (b.toNat : Int)) = (l.take i).map (fun b => (b.toNat : Int)) ++ [(l[i].toNat : Int)] := by
      rw [List.take_succ_eq_append_getElem hlt, List.map_append]; rfl
    refine Ev.step (f := fun k => gronx_zzLiterals.l0 k (B l) ((l.take (i + 1)).map fun b => (b.toNat : Int)) ((i + 1 : Nat) : Int)) (fun k => ?_) (ih (i + 1) (by omega) (by omega))
    simp only [gronx_zzLiterals.l0, B_size]
    rw [if_pos (by omega), wrap64_id (i := (i : Int) + 3) (by omega) (by omega)]
    by_cases h3 : i + 3 ≤ l.length
    · rw [if_pos (by omega), if_pos (by omega), if_pos (by omega), B_cut, literal_no _ (fun b hb => hp b (List.mem_of_mem_drop (List.mem_of_mem_take hb)))]
      simp only [Option.bind_some]
      rw [B_list, if_pos rfl, if_pos (by simp; omega), wrap64_nat i (by omega), htake, hbt]
    · rw [if_neg (by omega), if_pos (by omega), if_pos (by simp; omega), wrap64_nat i (by omega), htake, hbt]
theorem zzLiterals_ev (l : List UInt8) (hl : l.length < 140737488355328) (hp : ∀ b ∈ l, b.toNat ≤ 63) : Ev (fun k => gronx_zzLiterals.f k (B l)) (B l) := by
  have := zzLiterals_from l hl hp l.length 0 (by simp) (by omega)
  simpa [gronx_zzLiterals.f] using this
def hasYr : List UInt8 → Nat → Bool
  | [], _ => false
  | b :: t, n => if b.toNat < 48 ∨ 57 < b.toNat then hasYr t 0 else if n + 1 = 4 then true else hasYr t (n + 1)
theorem zzHasYear_from (l : List UInt8) (hl : l.length < 4611686018427387904) :
    ∀ (rest : List UInt8) (i n : Nat), l.drop i = rest → i ≤ l.length → n < 4 → Ev (fun k => gronx_zzHasYear.l0 k (B l) (n : Int) (i : Int)) (hasYr rest n) := by
  intro rest
  induction rest with
  | nil =>
    intro i n hi hil hn
    have hlen : l.length ≤ i := List.drop_eq_nil_iff.1 hi
    refine Ev.done fun k => ?_
    simp only [gronx_zzHasYear.l0, B_size]
    rw [if_neg (by omega)]
    rfl
  | cons b t ih =>
    intro i n hi hil hn
    have hlt : i < l.length := by
      rcases Nat.lt_or_ge i l.length with h | h
      · exact h
      · rw [List.drop_eq_nil_of_le h] at hi; cases hi
    have hbi : l[i] = b := by
      have := List.drop_eq_getElem_cons hlt
      rw [hi] at this
      exact (List.cons.inj this).1.symm
    have ht : l.drop (i + 1) = t := by rw [← List.drop_drop, hi]; rfl
    have hbt := bt_B_at l i hlt
    rw [hbi] at hbt
    unfold hasYr
    by_cases h1 : b.toNat < 48 ∨ 57 < b.toNat
    · rw [if_pos h1]
      refine Ev.step (f := fun k => gronx_zzHasYear.j1 k (B l) (n : Int) (i : Int) true) (fun k => ?_) (Ev.step (f := fun k => gronx_zzHasYear.l0 k (B l) ((0 : Nat) : Int) ((i + 1 : Nat) : Int)) (fun k => ?_) (ih (i + 1) 0 ht (by omega) (by omega)))
      · simp only [gronx_zzHasYear.l0, B_size]
        rw [if_pos (by omega), if_pos (by omega), hbt]
        by_cases h2 : (b.toNat : Int) < 48
        · rw [if_pos h2]
        · rw [if_neg h2, show decide ((b.toNat : Int) > 57) = true from decide_eq_true (by omega)]
      · simp only [gronx_zzHasYear.j1]
        rw [if_pos trivial, wrap64_nat i (by omega)]
        rfl
    · rw [if_neg h1]
      by_cases h2 : n + 1 = 4
      · rw [if_pos h2]
        refine Ev.step (f := fun k => gronx_zzHasYear.j1 k (B l) (n : Int) (i : Int) false) (fun k => ?_) (Ev.done fun k => ?_)
        · simp only [gronx_zzHasYear.l0, B_size]
          rw [if_pos (by omega), if_pos (by omega), hbt, if_neg (by omega), show decide ((b.toNat : Int) > 57) = false from decide_eq_false (by omega)]
        · simp only [gronx_zzHasYear.j1]
          rw [if_neg (by simp), wrap64_nat n (by omega), if_pos (by omega)]
      · rw [if_neg h2]
        refine Ev.step (f := fun k => gronx_zzHasYear.j1 k (B l) (n : Int) (i : Int) false) (fun k => ?_) (Ev.step (f := fun k => gronx_zzHasYear.l0 k (B l) ((n + 1 : Nat) : Int) ((i + 1 : Nat) : Int)) (fun k => ?_) (ih (i + 1) (n + 1) ht (by omega) (by omega)))
        · simp only [gronx_zzHasYear.l0, B_size]
          rw [if_pos (by omega), if_pos (by omega), hbt, if_neg (by omega), show decide ((b.toNat : Int) > 57) = false from decide_eq_false (by omega)]
        · simp only [gronx_zzHasYear.j1]
          rw [if_neg (by simp), wrap64_nat n (by omega), if_neg (by omega), wrap64_nat i (by omega)]
theorem zzHasYear_ev (l : List UInt8) (hl : l.length < 4611686018427387904) : Ev (fun k => gronx_zzHasYear.f k (B l)) (hasYr l 0) := by
  have := zzHasYear_from l hl l 0 0 rfl (Nat.zero_le _) (by omega)
  simpa [gronx_zzHasYear.f] using this
theorem toLower_plain (l : List UInt8) (hl : l.length ≤ 140737488355328) (hp : ∀ b ∈ l, b.toNat ≤ 63) : strings_ToLower.f (B l) = some (B l) := by
  unfold strings_ToLower.f
  rw [B_size, if_pos hl, if_pos (by unfold isAscii; rw [B_data, List.all_eq_true]; intro b hb; exact decide_eq_true (by have := hp b hb; omega))]
  rw [B_data]
  have : Lib.toLowerA l = l := by
    unfold Lib.toLowerA
    conv => rhs; rw [← List.map_id l]
    apply List.map_congr_left
    intro b hb
    have h := hp b hb
    have hu : Lib.isUpperB b = false := by
      unfold Lib.isUpperB
      rw [Bool.and_eq_false_iff]
      exact Or.inl (decide_eq_false (by rw [UInt8.le_iff_toNat_le]; show ¬ 65 ≤ b.toNat; omega))
    simp [Lib.lowerB, hu]
  rw [this]
  rfl
theorem toUpper_plain (l : List UInt8) (hl : l.length ≤ 140737488355328) (hp : ∀ b ∈ l, b.toNat ≤ 63) : strings_ToUpper.f (B l) = some (B l) := by
  unfold strings_ToUpper.f
  rw [B_size, if_pos hl, if_pos (by unfold isAscii; rw [B_data, List.all_eq_true]; intro b hb; exact decide_eq_true (by have := hp b hb; omega))]
  rw [B_data]
  have : Lib.toUpperA l = l := by
    unfold Lib.toUpperA
    conv => rhs; rw [← List.map_id l]
    apply List.map_congr_left
    intro b hb
    have h := hp b hb
    have hu : Lib.isLowerB b = false := by
      unfold Lib.isLowerB
      rw [Bool.and_eq_false_iff]
      exact Or.inl (decide_eq_false (by rw [UInt8.le_iff_toNat_le]; show ¬ 97 ≤ b.toNat; omega))
    simp [Lib.upperB, hu]
  rw [this]
  rfl
theorem expression_no (l : List UInt8) (hp : ∀ b ∈ l, b.toNat ≤ 63) : gronx_expression.f (B l) = some (B [], false) := by
  have hne : ∀ (m : List UInt8), ¬ l = 64 :: m := by
    intro m e
    have := hp 64 (by simp [e])
    simp at this
  unfold gronx_expression.f
  simp only [B_list]
  repeat rw [if_neg (hne _)]
  rfl
end Go.Proofs.YtemgofomhjabpaaGreatDoor.Core
namespace Go.Proofs.YtemgofomhjabpaaGreatDoor.Core
open Go.RowKit Go.Proofs.YtemgofomhjabpaaGreatDoorW.PrintWords Go.Proofs.YtemgofomhjabpaaGreatDoorW.PrintLast Go.Proofs.YtemgofomhjabpaaGreatDoorW.PrintMore
attribute [local go_sem] max2_int min2_int max_two min_two max_three min_three max_four min_four   -- for this text's walks alone
set_option linter.unusedVariables false
set_option linter.unusedSimpArgs false
end Go.Proofs.YtemgofomhjabpaaGreatDoor.Core
namespace Go.Proofs.YtemgofomhjabpaaGreatDoor.Core
open Go.RowKit Go.Proofs.YtemgofomhjabpaaGreatDoorW.PrintWords
abbrev It := S38
def lowI (i : Nat) : Int := if i = 3 then 1 else if i = 4 then 1 else 0
def highI (i : Nat) : Int := [59, 59, 23, 31, 12, 6].getD i 0
theorem low_some (i : Nat) : spec_Low.f (i : Int) = some (lowI i) := by
  unfold spec_Low.f lowI
  by_cases h : i = 3
  · subst h; rfl
  · by_cases h4 : i = 4
    · subst h4; rfl
    · rw [if_neg (by omega), if_neg (by omega), if_neg h, if_neg h4]
theorem high_some (i : Nat) (h : i < 6) : spec_High.f (i : Int) = some (highI i) := by
  unfold spec_High.f highI
  rw [if_pos (by omega), if_pos (by omega), rd_at]
theorem highI_le (i : Nat) : highI i ≤ 59 := by
  unfold highI
  match i with
  | 0 | 1 | 2 | 3 | 4 | 5 => decide
  | n + 6 => simp
theorem lowI_ge (i : Nat) : 0 ≤ lowI i := by
  unfold lowI
  split
  · omega
  · split <;> omega
def goodItem (i : Nat) (x : It) : Bool := decide (1 ≤ x.f3) && decide (x.f3 ≤ 60) && (x.f0 || (decide (lowI i ≤ x.f1) && decide (x.f2 ≤ highI i) && decide (x.f1 ≤ x.f2)))
def goodF (i : Nat) (l : List It) : Bool := l.all (goodItem i) && decide (1 ≤ l.length) && decide (l.length ≤ 6)
theorem rdI_at (l : List It) (j : Nat) (h : j < l.length) : rd_T38 l (j : Int) = l[j] := by
  simp [rd_T38, h]
theorem good_from (i : Nat) (hi : i < 6) (l : List It) (hl : l.length < 4611686018427387904) :
    ∀ (rest : List It) (j : Nat), l.drop j = rest → j ≤ l.length →
      Ev (fun k => spec_Good.l0 k (i : Int) l l (l.length : Int) (j : Int)) (rest.all (goodItem i) && decide (1 ≤ l.length) && decide (l.length ≤ 6)) := by
  intro rest
  induction rest with
  | nil =>
    intro j hj hjl
    have hlen : l.length ≤ j := List.drop_eq_nil_iff.1 hj
    refine Ev.done fun k => ?_
    simp only [spec_Good.l0]
    rw [if_neg (by omega)]
    by_cases h1 : 1 ≤ l.length
    · rw [if_pos (by omega)]
      simp [h1]
      omega
    · rw [if_neg (by omega)]
      simp [h1]
  | cons x t ih =>
    intro j hj hjl
    have hlt : j < l.length := by
      rcases Nat.lt_or_ge j l.length with h | h
      · exact h
      · rw [List.drop_eq_nil_of_le h] at hj; cases hj
    have hx : l[j] = x := by
      have := List.drop_eq_getElem_cons hlt
      rw [hj] at this
      exact (List.cons.inj this).1.symm
    have ht : l.drop (j + 1) = t := by rw [← List.drop_drop, hj]; rfl
    have hrd := rdI_at l j hlt
    rw [hx] at hrd
    have hrec := ih (j + 1) ht (by omega)
    by_cases hs : x.f3 < 1 ∨ 60 < x.f3
    · refine Ev.step (f := fun k => spec_Good.j1 k (i : Int) l l (l.length : Int) (j : Int) true x.f0 x.f1 x.f2 x.f3) (fun k => ?_) (Ev.done fun k => ?_)
      · simp only [spec_Good.l0, hrd]
        rw [if_pos (by omega), if_pos (by omega), if_pos (by omega)]
        by_cases h1 : x.f3 < 1
        · rw [if_pos h1]
        · rw [if_neg h1, show decide (x.f3 > 60) = true from decide_eq_true (by omega)]
      · simp only [spec_Good.j1]
        rw [if_pos trivial]
        have : goodItem i x = false := by
          unfold goodItem
          rcases hs with h | h
          · rw [show decide (1 ≤ x.f3) = false from decide_eq_false (by omega)]; rfl
          · rw [show decide (x.f3 ≤ 60) = false from decide_eq_false (by omega)]; simp
        simp [this]
    · refine Ev.step (f := fun k => spec_Good.j1 k (i : Int) l l (l.length : Int) (j : Int) false x.f0 x.f1 x.f2 x.f3) (fun k => ?_) ?_
      · simp only [spec_Good.l0, hrd]
        rw [if_pos (by omega), if_pos (by omega), if_pos (by omega), if_neg (by omega), show decide (x.f3 > 60) = false from decide_eq_false (by omega)]
      · have h1 : decide (1 ≤ x.f3) = true := decide_eq_true (by omega)
        have h2 : decide (x.f3 ≤ 60) = true := decide_eq_true (by omega)
        have hgo : ∀ b : Bool, goodItem i x = true → Ev (fun k => spec_Good.l0 k (i : Int) l l (l.length : Int) ((j + 1 : Nat) : Int)) ((x :: t).all (goodItem i) && decide (1 ≤ l.length) && decide (l.length ≤ 6)) := by
          intro _ hg
          rw [List.all_cons, hg, Bool.true_and]
          exact hrec
        by_cases h0 : x.f0 = true
        · refine Ev.step (f := fun k => spec_Good.l0 k (i : Int) l l (l.length : Int) ((j + 1 : Nat) : Int)) (fun k => ?_) (hgo true (by simp [goodItem, h1, h2, h0]))
          simp only [spec_Good.j1]
          rw [if_neg (by simp), if_pos h0, wrap64_nat j (by omega)]
        · by_cases g1 : x.f1 < lowI i
          · refine Ev.done fun k => ?_
            simp only [spec_Good.j1, low_some, Option.bind_some]
            rw [if_neg (by simp), if_neg h0, if_pos g1]
            have : goodItem i x = false := by simp [goodItem, h1, h2, h0]; omega
            simp [this]
          · by_cases g2 : x.f2 > highI i
            · refine Ev.done fun k => ?_
              simp only [spec_Good.j1, low_some, high_some i hi, Option.bind_some]
              rw [if_neg (by simp), if_neg h0, if_neg g1, if_pos g2]
              have : goodItem i x = false := by simp [goodItem, h1, h2, h0]; omega
              simp [this]
            · by_cases g3 : x.f1 > x.f2
              · refine Ev.done fun k => ?_
                simp only [spec_Good.j1, low_some, high_some i hi, Option.bind_some]
                rw [if_neg (by simp), if_neg h0, if_neg g1, if_neg g2, if_pos g3]
                have : goodItem i x = false := by simp [goodItem, h1, h2, h0]; omega
                simp [this]
              · refine Ev.step (f := fun k => spec_Good.l0 k (i : Int) l l (l.length : Int) ((j + 1 : Nat) : Int)) (fun k => ?_) (hgo true (by simp [goodItem, h1, h2, h0]; omega))
                simp only [spec_Good.j1, low_some, high_some i hi, Option.bind_some]
                rw [if_neg (by simp), if_neg h0, if_neg g1, if_neg g2, if_neg g3, wrap64_nat j (by omega)]
theorem good_ev (i : Nat) (hi : i < 6) (l : List It) (hl : l.length < 4611686018427387904) : Ev (fun k => spec_Good.f k (i : Int) l) (goodF i l) :=
  good_from i hi l hl l 0 rfl (Nat.zero_le _)
def starF (l : List It) : Bool := match l with | [x] => x.f0 && x.f3 == 1 | _ => false
theorem star_some (l : List It) : spec_Star.f l = some (starF l) := by
  unfold spec_Star.f starF
  match l with
  | [] => rfl
  | [x] =>
    rw [if_pos (by simp), if_pos (by simp)]
    have : rd_T38 [x] 0 = x := rfl
    rw [this]
    by_cases h : x.f0 = true
    · rw [if_pos h]; simp [h]
    · rw [if_neg h]; simp [h]
  | x :: y :: t => rw [if_neg (by simp; omega)]
def zeroF (l : List It) : Bool := match l with | [x] => !x.f0 && x.f1 == 0 && x.f2 == 0 && x.f3 == 1 | _ => false
def restE (f0 f3 f4 f5 : List It) (secs : Bool) : Bool := (secs || zeroF f0) && (starF f3 || starF f5) && (starF f4 || f3.all fun x => x.f0 || decide (x.f1 ≤ 28))
def goodE (Fs : List (List It)) (secs : Bool) : Bool := match Fs with
  | [f0, f1, f2, f3, f4, f5] => goodF 0 f0 && (goodF 1 f1 && (goodF 2 f2 && (goodF 3 f3 && (goodF 4 f4 && (goodF 5 f5 && restE f0 f3 f4 f5 secs)))))
  | _ => false
theorem exprGood_l1 (l : List It) (hl : l.length < 4611686018427387904) :
    ∀ (rest : List It) (j : Nat), l.drop j = rest → j ≤ l.length → Ev (fun k => spec_ExprGood.l1 k l (l.length : Int) (j : Int)) (rest.all fun x => x.f0 || decide (x.f1 ≤ 28)) := by
  intro rest
  induction rest with
  | nil =>
    intro j hj hjl
    have hlen : l.length ≤ j := List.drop_eq_nil_iff.1 hj
    refine Ev.done fun k => ?_
    simp only [spec_ExprGood.l1]
    rw [if_neg (by omega)]
    rfl
  | cons x t ih =>
    intro j hj hjl
    have hlt : j < l.length := by
      rcases Nat.lt_or_ge j l.length with h | h
      · exact h
      · rw [List.drop_eq_nil_of_le h] at hj; cases hj
    have hx : l[j] = x := by
      have := List.drop_eq_getElem_cons hlt
      rw [hj] at this
      exact (List.cons.inj this).1.symm
    have ht : l.drop (j + 1) = t := by rw [← List.drop_drop, hj]; rfl
    have hrd := rdI_at l j hlt
    rw [hx] at hrd
    have hrec := ih (j + 1) ht (by omega)
    rw [List.all_cons]
    by_cases h0 : x.f0 = true
    · rw [h0, Bool.true_or, Bool.true_and]
      refine Ev.step (f := fun k => spec_ExprGood.l1 k l (l.length : Int) ((j + 1 : Nat) : Int)) (fun k => ?_) hrec
      simp only [spec_ExprGood.l1, hrd]
      rw [if_pos (by omega), if_pos (by omega), if_pos (by omega), if_pos h0, wrap64_nat j (by omega)]
    · rw [show x.f0 = false from by simpa using h0, Bool.false_or]
      by_cases h1 : x.f1 > 28
      · rw [show decide (x.f1 ≤ 28) = false from decide_eq_false (by omega), Bool.false_and]
        refine Ev.done fun k => ?_
        simp only [spec_ExprGood.l1, hrd]
        rw [if_pos (by omega), if_pos (by omega), if_pos (by omega), if_neg h0, if_pos h1]
      · rw [show decide (x.f1 ≤ 28) = true from decide_eq_true (by omega), Bool.true_and]
        refine Ev.step (f := fun k => spec_ExprGood.l1 k l (l.length : Int) ((j + 1 : Nat) : Int)) (fun k => ?_) hrec
        simp only [spec_ExprGood.l1, hrd]
        rw [if_pos (by omega), if_pos (by omega), if_pos (by omega), if_neg h0, if_neg h1, wrap64_nat j (by omega)]
section
variable (f0 f1 f2 f3 f4 f5 : List It) (secs : Bool)
theorem exprGood_j2 (h3 : f3.length < 4611686018427387904) (b : Bool) :
    Ev (fun k => spec_ExprGood.j2 k b [f0, f1, f2, f3, f4, f5] secs) (!b && (starF f4 || f3.all fun x => x.f0 || decide (x.f1 ≤ 28))) := by
  have e4 : rd_L5 [f0, f1, f2, f3, f4, f5] 4 = f4 := rfl
  have e3 : rd_L5 [f0, f1, f2, f3, f4, f5] 3 = f3 := rfl
  cases b with
  | true =>
    refine Ev.done fun k => ?_
    simp only [spec_ExprGood.j2]
    rw [if_pos trivial]
    rfl
  | false =>
    cases h : starF f4 with
    | true =>
      refine Ev.done fun k => ?_
      simp only [spec_ExprGood.j2, e4, star_some, Option.bind_some, h]
      rw [if_neg (by simp), if_pos (by simp), if_pos trivial]
      rfl
    | false =>
      refine Ev.step (f := fun k => spec_ExprGood.l1 k f3 (f3.length : Int) ((0 : Nat) : Int)) (fun k => ?_) (Ev.eq _ (exprGood_l1 f3 h3 f3 0 rfl (Nat.zero_le _)) (by simp))
      simp only [spec_ExprGood.j2, e4, e3, star_some, Option.bind_some, h]
      rw [if_neg (by simp), if_pos (by simp), if_neg (by simp), if_pos (by simp)]
      rfl
theorem exprGood_j1 (h3 : f3.length < 4611686018427387904) (b : Bool) :
    Ev (fun k => spec_ExprGood.j1 k b [f0, f1, f2, f3, f4, f5] secs) (!b && (starF f3 || starF f5) && (starF f4 || f3.all fun x => x.f0 || decide (x.f1 ≤ 28))) := by
  have e3 : rd_L5 [f0, f1, f2, f3, f4, f5] 3 = f3 := rfl
  have e5 : rd_L5 [f0, f1, f2, f3, f4, f5] 5 = f5 := rfl
  cases b with
  | true =>
    refine Ev.done fun k => ?_
    simp only [spec_ExprGood.j1]
    rw [if_pos trivial]
    rfl
  | false =>
    cases h : starF f3 with
    | true =>
      refine Ev.step (f := fun k => spec_ExprGood.j2 k false [f0, f1, f2, f3, f4, f5] secs) (fun k => ?_) (exprGood_j2 f0 f1 f2 f3 f4 f5 secs h3 false)
      simp only [spec_ExprGood.j1, e3, star_some, Option.bind_some, h]
      rw [if_neg (by simp), if_pos (by simp), if_pos trivial]
    | false =>
      refine Ev.step (f := fun k => spec_ExprGood.j2 k (!starF f5) [f0, f1, f2, f3, f4, f5] secs) (fun k => ?_) (Ev.eq _ (exprGood_j2 f0 f1 f2 f3 f4 f5 secs h3 (!starF f5)) (by simp))
      simp only [spec_ExprGood.j1, e3, e5, star_some, Option.bind_some, h]
      rw [if_neg (by simp), if_pos (by simp), if_neg (by simp), if_pos (by simp)]
theorem exprGood_rest (h3 : f3.length < 4611686018427387904) :
    Ev (fun k => spec_ExprGood.l0 k [f0, f1, f2, f3, f4, f5] 6 6 [f0, f1, f2, f3, f4, f5] secs) (restE f0 f3 f4 f5 secs) := by
  have e0 : rd_L5 [f0, f1, f2, f3, f4, f5] 0 = f0 := rfl
  unfold restE
  cases secs with
  | true =>
    refine Ev.step (f := fun k => spec_ExprGood.j1 k false [f0, f1, f2, f3, f4, f5] true) (fun k => ?_) (exprGood_j1 f0 f1 f2 f3 f4 f5 true h3 false)
    simp only [spec_ExprGood.l0]
    rw [if_neg (by simp), if_pos trivial]
  | false =>
    refine Ev.step (f := fun k => spec_ExprGood.j1 k (!zeroF f0) [f0, f1, f2, f3, f4, f5] false) (fun k => ?_) (Ev.eq _ (exprGood_j1 f0 f1 f2 f3 f4 f5 false h3 (!zeroF f0)) (by simp))
    simp only [spec_ExprGood.l0, e0]
    rw [if_neg (by simp), if_neg (by simp), if_pos (by simp)]
    match f0 with
    | [] => rfl
    | [x] =>
      rw [if_pos (by simp), if_pos (by simp)]
      have : rd_T38 [x] 0 = x := rfl
      rw [this]
      congr 1
      simp [zeroF, Bool.not_and, Bool.or_assoc]
    | x :: y :: t => rw [if_neg (by simp; omega)]; rfl
theorem exprGood_six (h : ∀ l ∈ [f0, f1, f2, f3, f4, f5], l.length < 4611686018427387904) : Ev (fun k => spec_ExprGood.f k [f0, f1, f2, f3, f4, f5] secs) (goodE [f0, f1, f2, f3, f4, f5] secs) := by
  have step : ∀ (j : Nat) (l : List It) (b : Bool), j < 6 → l.length < 4611686018427387904 → rd_L5 [f0, f1, f2, f3, f4, f5] (j : Int) = l →
      Ev (fun k => spec_ExprGood.l0 k [f0, f1, f2, f3, f4, f5] 6 ((j + 1 : Nat) : Int) [f0, f1, f2, f3, f4, f5] secs) b →
      Ev (fun k => spec_ExprGood.l0 k [f0, f1, f2, f3, f4, f5] 6 (j : Int) [f0, f1, f2, f3, f4, f5] secs) (goodF j l && b) := by
    intro j l b hj hl hrd hrec
    refine Ev.step (f := fun k => (spec_Good.f k (j : Int) l).bind fun t => if t = true then spec_ExprGood.l0 k [f0, f1, f2, f3, f4, f5] 6 ((j + 1 : Nat) : Int) [f0, f1, f2, f3, f4, f5] secs else some false) (fun k => ?_) (Ev.bind (good_ev j hj l hl) ?_)
    · simp only [spec_ExprGood.l0, hrd]
      rw [if_pos (by omega), if_pos (by omega), if_pos (by simp; omega), wrap64_nat j (by omega)]
    · cases goodF j l with
      | true => exact Ev.congr (f := fun k => spec_ExprGood.l0 k [f0, f1, f2, f3, f4, f5] 6 ((j + 1 : Nat) : Int) [f0, f1, f2, f3, f4, f5] secs) (fun k => if_pos rfl) (by simpa using hrec)
      | false => exact Ev.const (by simp)
  unfold goodE
  refine Ev.congr (f := fun k => spec_ExprGood.l0 k [f0, f1, f2, f3, f4, f5] 6 ((0 : Nat) : Int) [f0, f1, f2, f3, f4, f5] secs) (fun k => by unfold spec_ExprGood.f; rw [if_pos (by simp)]; rfl) ?_
  exact step 0 f0 _ (by omega) (h _ (by simp)) rfl (step 1 f1 _ (by omega) (h _ (by simp)) rfl (step 2 f2 _ (by omega) (h _ (by simp)) rfl (step 3 f3 _ (by omega) (h _ (by simp)) rfl (step 4 f4 _ (by omega) (h _ (by simp)) rfl (step 5 f5 _ (by omega) (h _ (by simp)) rfl
    (exprGood_rest f0 f1 f2 f3 f4 f5 secs (h _ (by simp))))))))
end
theorem exprGood_ev (Fs : List (List It)) (secs : Bool) (h : ∀ l ∈ Fs, l.length < 4611686018427387904) : Ev (fun k => spec_ExprGood.f k Fs secs) (goodE Fs secs) := by
  by_cases h6 : Fs.length = 6
  · match Fs, h6 with
    | [f0, f1, f2, f3, f4, f5], _ => exact exprGood_six f0 f1 f2 f3 f4 f5 secs h
  · have : goodE Fs secs = false := by
      match Fs with
      | [] | [_] | [_, _] | [_, _, _] | [_, _, _, _] | [_, _, _, _, _] => rfl
      | [_, _, _, _, _, _] => simp at h6
      | _ :: _ :: _ :: _ :: _ :: _ :: _ :: _ => rfl
    rw [this]
    exact Ev.congr (f := fun _ => some false) (fun k => by unfold spec_ExprGood.f; rw [if_neg (by omega)]) (Ev.const rfl)
end Go.Proofs.YtemgofomhjabpaaGreatDoor.Core
namespace Go.Proofs.YtemgofomhjabpaaGreatDoor.Core
open Go.RowKit Go.Proofs.YtemgofomhjabpaaGreatDoorW.PrintWords
def digits10 : List UInt8 := [48, 49, 50, 51, 52, 53, 54, 55, 56, 57]
theorem digit_cut (n : Nat) (h : n < 10) : (B digits10).extract n (n + 1) = B [UInt8.ofNat (48 + n)] := by
  rw [B_cut]
  have : ∀ n, n < 10 → (digits10.drop n).take (n + 1 - n) = [UInt8.ofNat (48 + n)] := by decide
  rw [this n h]
theorem decimal_ev (m : Nat) : ∀ n : Nat, n < 10 ^ (m + 1) → m < 17 → Ev (fun k => spec_Decimal.f k (n : Int)) (B (decN n)) := by
  have base : ∀ n : Nat, n < 10 → Ev (fun k => spec_Decimal.f k (n : Int)) (B (decN n)) := by
    intro n h
    refine Ev.done fun k => ?_
    simp only [spec_Decimal.f]
    rw [if_pos (by omega), if_pos (by omega), wrap64_id (by omega) (by omega), if_pos (by omega), if_pos (by omega), decN_lt n h]
    have := digit_cut n h
    rw [show ((n : Int)).toNat = n by omega, show ((n : Int) + 1).toNat = n + 1 by omega]
    exact congrArg some this
  induction m with
  | zero => intro n h _; exact base n (by simpa using h)
  | succ m ih =>
    intro n h hm
    by_cases h10 : n < 10
    · exact base n h10
    · have hq : n / 10 < 10 ^ (m + 1) := by rw [Nat.div_lt_iff_lt_mul (by omega)]; rw [Nat.pow_succ] at h; exact h
      have hn : n < 10 ^ 18 := Nat.lt_of_lt_of_le h (Nat.pow_le_pow_right (by omega) (by omega))
      have hn' : n < 1000000000000000000 := by simpa using hn
      have e1 : wrap64 (Int.tdiv (n : Int) 10) = ((n / 10 : Nat) : Int) := by
        rw [Int.tdiv_eq_ediv_of_nonneg (by omega), wrap64_id (by omega) (by omega)]; rfl
      have e2 : Int.tmod (n : Int) 10 = ((n % 10 : Nat) : Int) := by rw [Int.tmod_eq_emod_of_nonneg (by omega)]; rfl
      have l1 := decN_length (n / 10) m hq
      refine Ev.step (f := fun k => (spec_Decimal.f k ((n / 10 : Nat) : Int)).bind fun t => (spec_Decimal.f k ((n % 10 : Nat) : Int)).bind fun u => if t.size + u.size ≤ 9223372036854775807 then some (t ++ u) else none) (fun k => ?_) (Ev.bind (ih (n / 10) hq (by omega)) (Ev.bind (base (n % 10) (by omega)) (Ev.const ?_)))
      · simp only [spec_Decimal.f]
        rw [if_neg (by omega), e1, e2]
      · rw [B_size, B_size, decN_lt (n % 10) (by omega), if_pos (by simp; omega), B_app, decN_ge n h10]
theorem dec_ev (n : Int) (h0 : 0 ≤ n) (h : n < 100000) : Ev (fun k => spec_Decimal.f k n) (B (decN n.toNat)) := by
  have := decimal_ev 4 n.toNat (by simp; omega) (by omega)
  rwa [show ((n.toNat : Nat) : Int) = n by omega] at this
theorem decN_two (n : Nat) (h : n < 100) : (decN n).length ≤ 2 := decN_length n 1 (by simpa using h)
def stepL (s : Int) : List UInt8 := if 1 < s then 47 :: decN s.toNat else []
def itemL (x : It) : List UInt8 := if x.f0 then 42 :: stepL x.f3 else decN x.f1.toNat ++ ((if x.f1 < x.f2 ∨ 1 < x.f3 then 45 :: decN x.f2.toNat else []) ++ stepL x.f3)
theorem goodItem_spec {i : Nat} {x : It} (h : goodItem i x = true) : 1 ≤ x.f3 ∧ x.f3 ≤ 60 ∧ (x.f0 = false → 0 ≤ x.f1 ∧ x.f2 ≤ 59 ∧ x.f1 ≤ x.f2 ∧ lowI i ≤ x.f1 ∧ x.f2 ≤ highI i) := by
  unfold goodItem at h
  simp only [Bool.and_eq_true, decide_eq_true_eq, Bool.or_eq_true] at h
  refine ⟨h.1.1, h.1.2, fun h0 => ?_⟩
  have hl := lowI_ge i
  have hh := highI_le i
  rcases h.2 with h2 | h2
  · rw [h0] at h2; cases h2
  · exact ⟨by omega, by omega, h2.2, h2.1.1, h2.1.2⟩
theorem stepL_length (s : Int) (h : s ≤ 60) : (stepL s).length ≤ 3 := by
  unfold stepL
  split
  · have := decN_two s.toNat (by omega); simp; omega
  · simp
theorem item_ev {i : Nat} {x : It} (h : goodItem i x = true) : Ev (fun k => spec_ItemText.f k x.f0 x.f1 x.f2 x.f3) (B (itemL x)) := by
  obtain ⟨s1, s2, hr⟩ := goodItem_spec h
  have hst : ∀ (p : List UInt8), p.length ≤ 10 → ∀ f : Bool, Ev (fun k => if x.f3 > 1 then ((spec_Decimal.f k x.f3).bind fun t => (if 1 + t.size ≤ 9223372036854775807 then (if (B p).size + ((⟨#[47]⟩ : ByteArray) ++ t).size ≤ 9223372036854775807 then (some (B p ++ ((⟨#[47]⟩ : ByteArray) ++ t))) else (none)) else (none))) else some (B p)) (B (p ++ stepL x.f3)) := by
    intro p hp _
    unfold stepL
    by_cases h3 : 1 < x.f3
    · rw [if_pos h3]
      refine Ev.congr (f := fun k => (spec_Decimal.f k x.f3).bind fun t => (if 1 + t.size ≤ 9223372036854775807 then (if (B p).size + ((⟨#[47]⟩ : ByteArray) ++ t).size ≤ 9223372036854775807 then (some (B p ++ ((⟨#[47]⟩ : ByteArray) ++ t))) else (none)) else (none))) (fun k => if_pos h3) (Ev.bind (dec_ev x.f3 (by omega) (by omega)) (Ev.const ?_))
      have := decN_two x.f3.toNat (by omega)
      rw [show (⟨#[47]⟩ : ByteArray) = B [47] from rfl, B_app, B_size, B_size, B_size, if_pos (by omega), if_pos (by simp; omega), B_app]
      rfl
    · rw [if_neg h3]
      exact Ev.congr (f := fun _ => some (B p)) (fun k => if_neg (by omega)) (Ev.const (by simp))
  unfold itemL
  cases h0 : x.f0 with
  | true =>
    rw [if_pos rfl]
    refine Ev.congr (f := fun k => if x.f3 > 1 then ((spec_Decimal.f k x.f3).bind fun t => (if 1 + t.size ≤ 9223372036854775807 then (if (B [42]).size + ((⟨#[47]⟩ : ByteArray) ++ t).size ≤ 9223372036854775807 then (some (B [42] ++ ((⟨#[47]⟩ : ByteArray) ++ t))) else (none)) else (none))) else some (B [42])) (fun k => ?_) (hst [42] (by simp) true)
    unfold spec_ItemText.f
    rw [if_pos rfl]
    rfl
  | false =>
    obtain ⟨r1, r2, r3, _, _⟩ := hr h0
    rw [if_neg (by simp)]
    have l1 := decN_two x.f1.toNat (by omega)
    have l2 := decN_two x.f2.toNat (by omega)
    have hj : ∀ b : Bool, b = decide (x.f1 < x.f2 ∨ 1 < x.f3) → Ev (fun k => spec_ItemText.j0 k (B (decN x.f1.toNat)) b false x.f1 x.f2 x.f3) (B (decN x.f1.toNat ++ ((if x.f1 < x.f2 ∨ 1 < x.f3 then 45 :: decN x.f2.toNat else []) ++ stepL x.f3))) := by
      intro b hb
      by_cases hc : x.f1 < x.f2 ∨ 1 < x.f3
      · rw [decide_eq_true hc] at hb
        subst hb
        rw [if_pos hc]
        refine Ev.step (f := fun k => (spec_Decimal.f k x.f2).bind fun t => if t = B (decN x.f2.toNat) then (if x.f3 > 1 then ((spec_Decimal.f k x.f3).bind fun t => (if 1 + t.size ≤ 9223372036854775807 then (if (B (decN x.f1.toNat ++ 45 :: decN x.f2.toNat)).size + ((⟨#[47]⟩ : ByteArray) ++ t).size ≤ 9223372036854775807 then (some (B (decN x.f1.toNat ++ 45 :: decN x.f2.toNat) ++ ((⟨#[47]⟩ : ByteArray) ++ t))) else (none)) else (none))) else some (B (decN x.f1.toNat ++ 45 :: decN x.f2.toNat))) else spec_ItemText.j0 (k + 1) (B (decN x.f1.toNat)) true false x.f1 x.f2 x.f3) (fun k => ?_) (Ev.bind (dec_ev x.f2 (by omega) (by omega)) ?_)
        · cases hg : spec_Decimal.f k x.f2 with
          | none => simp only [spec_ItemText.j0, hg]; rw [if_pos trivial]; rfl
          | some t =>
            simp only [Option.bind_some]
            by_cases ht : t = B (decN x.f2.toNat)
            · rw [if_pos ht]
              subst ht
              simp only [spec_ItemText.j0, hg, Option.bind_some]
              rw [if_pos trivial, show (⟨#[45]⟩ : ByteArray) = B [45] from rfl, B_app, if_pos (by rw [B_size]; omega), if_pos (by rw [B_size, B_size]; simp; omega), B_app]
              rfl
            · rw [if_neg ht]
        · refine Ev.congr (f := fun k => if x.f3 > 1 then ((spec_Decimal.f k x.f3).bind fun t => (if 1 + t.size ≤ 9223372036854775807 then (if (B (decN x.f1.toNat ++ 45 :: decN x.f2.toNat)).size + ((⟨#[47]⟩ : ByteArray) ++ t).size ≤ 9223372036854775807 then (some (B (decN x.f1.toNat ++ 45 :: decN x.f2.toNat) ++ ((⟨#[47]⟩ : ByteArray) ++ t))) else (none)) else (none))) else some (B (decN x.f1.toNat ++ 45 :: decN x.f2.toNat))) (fun k => if_pos rfl) ?_
          have := hst (decN x.f1.toNat ++ 45 :: decN x.f2.toNat) (by simp; omega) true
          rwa [List.append_assoc] at this
      · rw [decide_eq_false hc] at hb
        subst hb
        rw [if_neg hc]
        refine Ev.step (f := fun k => if x.f3 > 1 then ((spec_Decimal.f k x.f3).bind fun t => (if 1 + t.size ≤ 9223372036854775807 then (if (B (decN x.f1.toNat)).size + ((⟨#[47]⟩ : ByteArray) ++ t).size ≤ 9223372036854775807 then (some (B (decN x.f1.toNat) ++ ((⟨#[47]⟩ : ByteArray) ++ t))) else (none)) else (none))) else some (B (decN x.f1.toNat))) (fun k => ?_) (hst (decN x.f1.toNat) (by omega) true)
        simp only [spec_ItemText.j0]
        rw [if_neg (by simp)]
    refine Ev.congr (f := fun k => (spec_Decimal.f k x.f1).bind fun t => if x.f2 > x.f1 then spec_ItemText.j0 k t true false x.f1 x.f2 x.f3 else spec_ItemText.j0 k t (decide (x.f3 > 1)) false x.f1 x.f2 x.f3) (fun k => ?_) (Ev.bind (dec_ev x.f1 (by omega) (by omega)) ?_)
    · unfold spec_ItemText.f
      rw [if_neg (by simp)]
    · by_cases h12 : x.f1 < x.f2
      · exact Ev.congr (f := fun k => spec_ItemText.j0 k (B (decN x.f1.toNat)) true false x.f1 x.f2 x.f3) (fun k => if_pos h12) (hj true (by simp [h12]))
      · exact Ev.congr (f := fun k => spec_ItemText.j0 k (B (decN x.f1.toNat)) (decide (x.f3 > 1)) false x.f1 x.f2 x.f3) (fun k => if_neg h12) (hj _ (by simp [h12]))
theorem itemL_length {i : Nat} {x : It} (h : goodItem i x = true) : (itemL x).length ≤ 8 := by
  obtain ⟨s1, s2, hr⟩ := goodItem_spec h
  have hs := stepL_length x.f3 s2
  unfold itemL
  cases h0 : x.f0 with
  | true => simp; omega
  | false =>
    obtain ⟨r1, r2, r3, _, _⟩ := hr h0
    have l1 := decN_two x.f1.toNat (by omega)
    have l2 := decN_two x.f2.toNat (by omega)
    simp
    split <;> simp <;> omega
def joinL (c : UInt8) : List (List UInt8) → List UInt8
  | [] => []
  | [x] => x
  | x :: y :: t => x ++ c :: joinL c (y :: t)
theorem joinL_snoc (c : UInt8) (l : List (List UInt8)) (x : List UInt8) (h : l ≠ []) : joinL c (l ++ [x]) = joinL c l ++ c :: x := by
  induction l with
  | nil => exact absurd rfl h
  | cons a t ih =>
    cases t with
    | nil => rfl
    | cons b t =>
      rw [List.cons_append, List.cons_append, joinL, ← List.cons_append, ih (by simp), joinL]
      simp
theorem joinL_length (c : UInt8) (l : List (List UInt8)) (m : Nat) (h : ∀ x ∈ l, x.length ≤ m) : (joinL c l).length ≤ l.length * (m + 1) := by
  induction l with
  | nil => simp [joinL]
  | cons a t ih =>
    have ha := h a (by simp)
    cases t with
    | nil => simp [joinL]; omega
    | cons b t =>
      have := ih (fun x hx => h x (by simp [hx]))
      rw [joinL, List.length_append, List.length_cons, List.length_cons, Nat.succ_mul]
      omega
def fieldL (l : List It) : List UInt8 := joinL 44 (l.map itemL)
theorem goodF_spec {i : Nat} {l : List It} (h : goodF i l = true) : (∀ x ∈ l, goodItem i x = true) ∧ 1 ≤ l.length ∧ l.length ≤ 6 := by
  unfold goodF at h
  simp only [Bool.and_eq_true, decide_eq_true_eq, List.all_eq_true] at h
  exact ⟨h.1.1, h.1.2, h.2⟩
theorem fieldL_length {i : Nat} {l : List It} (h : goodF i l = true) : (fieldL l).length ≤ 54 := by
  obtain ⟨hg, h1, h6⟩ := goodF_spec h
  have := joinL_length 44 (l.map itemL) 8 (by intro z hz; obtain ⟨y, hy, rfl⟩ := List.mem_map.1 hz; exact itemL_length (hg y hy))
  rw [List.length_map] at this
  unfold fieldL
  omega
theorem field_from {i : Nat} (l : List It) (hg : ∀ x ∈ l, goodItem i x = true) (h6 : l.length ≤ 6) :
    ∀ (rest : List It) (j : Nat), l.drop j = rest → j ≤ l.length → Ev (fun k => spec_FieldText.l0 k (B (joinL 44 ((l.take j).map itemL))) l (l.length : Int) (j : Int)) (B (fieldL l)) := by
  intro rest
  induction rest with
  | nil =>
    intro j hj hjl
    have hlen : l.length ≤ j := List.drop_eq_nil_iff.1 hj
    refine Ev.done fun k => ?_
    simp only [spec_FieldText.l0]
    rw [if_neg (by omega), List.take_of_length_le hlen]
    rfl
  | cons x t ih =>
    intro j hj hjl
    have hlt : j < l.length := by
      rcases Nat.lt_or_ge j l.length with h | h
      · exact h
      · rw [List.drop_eq_nil_of_le h] at hj; cases hj
    have hx : l[j] = x := by
      have := List.drop_eq_getElem_cons hlt
      rw [hj] at this
      exact (List.cons.inj this).1.symm
    have ht : l.drop (j + 1) = t := by rw [← List.drop_drop, hj]; rfl
    have hrd := rdI_at l j hlt
    rw [hx] at hrd
    have hgx := hg x (by rw [← hx]; exact List.getElem_mem hlt)
    have hlx := itemL_length hgx
    have hbound : (joinL 44 ((l.take j).map itemL)).length ≤ 54 := by
      have := joinL_length 44 ((l.take j).map itemL) 8 (by intro z hz; obtain ⟨y, hy, rfl⟩ := List.mem_map.1 hz; exact itemL_length (hg y (List.mem_of_mem_take hy)))
      rw [List.length_map, List.length_take] at this
      omega
    have hrec := ih (j + 1) ht (by omega)
    rw [List.take_succ_eq_append_getElem hlt, List.map_append, hx, List.map_singleton] at hrec
    by_cases h0 : j = 0
    · subst h0
      refine Ev.step (f := fun k => (spec_ItemText.f k x.f0 x.f1 x.f2 x.f3).bind fun t => if t.size ≤ 9223372036854775807 then spec_FieldText.l0 k (B [] ++ t) l (l.length : Int) ((0 + 1 : Nat) : Int) else none) (fun k => ?_) (Ev.bind (item_ev hgx) ?_)
      · simp only [spec_FieldText.l0, hrd]
        rw [if_pos (by omega), if_pos (by omega), if_pos (by omega), if_neg (by omega), wrap64_nat 0 (by omega)]
        simp [joinL, B_size]
      · refine Ev.congr (f := fun k => spec_FieldText.l0 k (B (joinL 44 ([] ++ [itemL x]))) l (l.length : Int) ((0 + 1 : Nat) : Int)) (fun k => ?_) (by simpa using hrec)
        rw [if_pos (by rw [B_size]; omega), B_app]
        rfl
    · have hnn : (l.take j).map itemL ≠ [] := by
        intro e
        have := congrArg List.length e
        rw [List.length_map, List.length_take, List.length_nil] at this
        omega
      rw [joinL_snoc _ _ _ hnn] at hrec
      refine Ev.step (f := fun k => (spec_ItemText.f k x.f0 x.f1 x.f2 x.f3).bind fun t => if (B (joinL 44 ((l.take j).map itemL ++ [[]]))).size + t.size ≤ 9223372036854775807 then spec_FieldText.l0 k (B (joinL 44 ((l.take j).map itemL ++ [[]])) ++ t) l (l.length : Int) ((j + 1 : Nat) : Int) else none) (fun k => ?_) (Ev.bind (item_ev hgx) ?_)
      · simp only [spec_FieldText.l0, hrd]
        rw [if_pos (by omega), if_pos (by omega), if_pos (by omega), if_pos (by omega), wrap64_nat j (by omega), if_pos (by rw [B_size]; omega), show (⟨#[44]⟩ : ByteArray) = B [44] from rfl, B_app, joinL_snoc _ _ _ hnn]
      · refine Ev.congr (f := fun k => spec_FieldText.l0 k (B (joinL 44 ((l.take j).map itemL) ++ 44 :: itemL x)) l (l.length : Int) ((j + 1 : Nat) : Int)) (fun k => ?_) (by simpa using hrec)
        rw [joinL_snoc _ _ _ hnn, if_pos (by rw [B_size, B_size, List.length_append, List.length_singleton]; omega), B_app]
        simp
theorem field_ev {i : Nat} {l : List It} (h : goodF i l = true) : Ev (fun k => spec_FieldText.f k l) (B (fieldL l)) := by
  obtain ⟨hg, h1, h6⟩ := goodF_spec h
  exact field_from l hg h6 l 0 rfl (Nat.zero_le _)
theorem joinL_ne (c : UInt8) (l : List (List UInt8)) (h : l ≠ []) (hx : ∀ x ∈ l, x ≠ []) : joinL c l ≠ [] := by
  match l with
  | [] => exact absurd rfl h
  | [x] => exact hx x (by simp)
  | x :: y :: t => rw [joinL]; simp
theorem itemL_ne (x : It) : itemL x ≠ [] := by
  unfold itemL
  split
  · simp
  · have := decN_ne x.f1.toNat
    simp [this]
theorem fieldL_ne {i : Nat} {l : List It} (h : goodF i l = true) : fieldL l ≠ [] := by
  obtain ⟨hg, h1, h6⟩ := goodF_spec h
  refine joinL_ne _ _ ?_ ?_
  · intro e
    have := congrArg List.length e
    simp at this
    rw [this] at h1
    simp at h1
  · intro x hx
    obtain ⟨y, _, rfl⟩ := List.mem_map.1 hx
    exact itemL_ne y
def GoodFs (Fs : List (List It)) : Prop := Fs.length = 6 ∧ ∀ (j : Nat) (h : j < Fs.length), goodF j Fs[j] = true
theorem goodE_spec {Fs : List (List It)} {secs : Bool} (h : goodE Fs secs = true) :
    ∃ f0 f1 f2 f3 f4 f5, Fs = [f0, f1, f2, f3, f4, f5] ∧ goodF 0 f0 = true ∧ goodF 1 f1 = true ∧ goodF 2 f2 = true ∧ goodF 3 f3 = true ∧ goodF 4 f4 = true ∧ goodF 5 f5 = true ∧ restE f0 f3 f4 f5 secs = true := by
  unfold goodE at h
  split at h
  · rename_i f0 f1 f2 f3 f4 f5
    simp only [Bool.and_eq_true] at h
    exact ⟨f0, f1, f2, f3, f4, f5, rfl, h.1, h.2.1, h.2.2.1, h.2.2.2.1, h.2.2.2.2.1, h.2.2.2.2.2.1, h.2.2.2.2.2.2⟩
  · cases h
theorem goodE_fs {Fs : List (List It)} {secs : Bool} (h : goodE Fs secs = true) : GoodFs Fs := by
  obtain ⟨f0, f1, f2, f3, f4, f5, rfl, h0, h1, h2, h3, h4, h5, _⟩ := goodE_spec h
  refine ⟨rfl, fun j hj => ?_⟩
  match j, hj with
  | 0, _ => exact h0
  | 1, _ => exact h1
  | 2, _ => exact h2
  | 3, _ => exact h3
  | 4, _ => exact h4
  | 5, _ => exact h5
  | n + 6, h => simp at h; omega
end Go.Proofs.YtemgofomhjabpaaGreatDoor.Core
namespace Go.Proofs.YtemgofomhjabpaaGreatDoor.Core
open Go.RowKit Go.Proofs.YtemgofomhjabpaaGreatDoorW.PrintWords
def PartOk (p : List UInt8) : Prop := p ≠ [] ∧ ∀ b ∈ p, 33 ≤ b.toNat ∧ b.toNat ≤ 63
theorem joinL_mem {c : UInt8} {P : List (List UInt8)} {b : UInt8} (h : b ∈ joinL c P) : b = c ∨ ∃ p ∈ P, b ∈ p := by
  induction P with
  | nil => cases h
  | cons x t ih =>
    cases t with
    | nil => exact Or.inr ⟨x, by simp, h⟩
    | cons y t =>
      rw [joinL] at h
      rcases List.mem_append.1 h with h | h
      · exact Or.inr ⟨x, by simp, h⟩
      · rcases List.mem_cons.1 h with h | h
        · exact Or.inl h
        · rcases ih h with h | ⟨p, hp, h⟩
          · exact Or.inl h
          · exact Or.inr ⟨p, by simp [hp], h⟩
theorem splitL_join (c : UInt8) (P : List (List UInt8)) (h : P ≠ []) (hc : ∀ p ∈ P, c ∉ p) : splitL c (joinL c P) = P := by
  induction P with
  | nil => exact absurd rfl h
  | cons x t ih =>
    cases t with
    | nil => exact splitL_none c x (hc x (by simp))
    | cons y t => rw [joinL, splitL_at c x _ (hc x (by simp)), ih (by simp) (fun p hp => hc p (by simp [hp]))]
theorem noDbl_part (p r : List UInt8) (hp : ∀ b ∈ p, b ≠ 32) (hr : noDbl r = true) : noDbl (p ++ r) = true := by
  induction p with
  | nil => exact hr
  | cons a t ih =>
    have ha : (a == 32) = false := by simpa using hp a (by simp)
    have := ih (fun b hb => hp b (by simp [hb]))
    rw [List.cons_append]
    match h : t ++ r with
    | [] => rfl
    | b :: s => rw [h] at this; simp [noDbl, ha, this]
theorem noDbl_join (P : List (List UInt8)) (hP : ∀ p ∈ P, PartOk p) : noDbl (joinL 32 P) = true := by
  have h32 : ∀ p ∈ P, ∀ b ∈ p, b ≠ 32 := by
    intro p hp b hb e
    have := (hP p hp).2 b hb
    rw [e] at this
    simp at this
  induction P with
  | nil => rfl
  | cons x t ih =>
    cases t with
    | nil => have := noDbl_part x [] (h32 x (by simp)) rfl; simpa [joinL] using this
    | cons y t =>
      rw [joinL]
      refine noDbl_part x _ (h32 x (by simp)) ?_
      have hrec := ih (fun p hp => hP p (by simp [hp])) (fun p hp => h32 p (by simp [hp]))
      match h : joinL 32 (y :: t) with
      | [] => rfl
      | b :: s =>
        rw [h] at hrec
        have hb : b ≠ 32 := by
          have hy := hP y (by simp)
          match hyy : y with
          | [] => exact absurd rfl hy.1
          | z :: zs =>
            have : b = z := by
              cases t with
              | nil => rw [joinL] at h; exact (List.cons.inj h).1.symm
              | cons w t => rw [joinL, List.cons_append] at h; exact (List.cons.inj h).1.symm
            rw [this]
            exact h32 (z :: zs) (by simp) z (by simp)
        simp [noDbl, hb, hrec]
theorem getLast_join (c : UInt8) (P : List (List UInt8)) (hne : P ≠ []) (hP : ∀ p ∈ P, p ≠ []) (b : UInt8) (h : (joinL c P).getLast? = some b) : ∃ p ∈ P, b ∈ p := by
  induction P with
  | nil => exact absurd rfl hne
  | cons x t ih =>
    cases t with
    | nil => exact ⟨x, by simp, List.mem_of_getLast? h⟩
    | cons y t =>
      have hy : joinL c (y :: t) ≠ [] := joinL_ne c _ (by simp) (fun p hp => hP p (by simp [hp]))
      rw [joinL, List.getLast?_append, List.getLast?_cons_of_ne_nil hy] at h
      match hl : (joinL c (y :: t)).getLast? with
      | none => exact absurd (List.getLast?_eq_none_iff.1 hl) hy
      | some z =>
        rw [hl, Option.some_or] at h
        obtain ⟨p, hp, hb⟩ := ih (by simp) (fun p hp => hP p (by simp [hp])) (by rw [hl]; exact h)
        exact ⟨p, by simp [hp], hb⟩
theorem head_join (c : UInt8) (P : List (List UInt8)) (hne : P ≠ []) (hP : ∀ p ∈ P, p ≠ []) (b : UInt8) (h : (joinL c P).head? = some b) : ∃ p ∈ P, b ∈ p := by
  match P, hne with
  | [x], _ => exact ⟨x, by simp, List.mem_of_mem_head? h⟩
  | x :: y :: t, _ =>
    match hx : x with
    | [] => exact absurd rfl (hP [] (by simp))
    | z :: zs =>
      rw [joinL, List.cons_append, List.head?_cons] at h
      exact ⟨z :: zs, by simp, by rw [← Option.some.inj h]; simp⟩
theorem normalize_ev (P : List (List UInt8)) (hne : P ≠ []) (hP : ∀ p ∈ P, PartOk p) (hl : (joinL 32 P).length < 8796093022208) : Ev (fun k => gronx_normalize.f k (B (joinL 32 P))) (P.map B) := by
  have hpl : ∀ b ∈ joinL 32 P, plainB b = true := by
    intro b hb
    rcases joinL_mem hb with h | ⟨p, hp, h⟩
    · subst h; rfl
    · have := (hP p hp).2 b h
      unfold plainB
      rw [decide_eq_true this.1, decide_eq_true this.2]
      simp
  have h63 : ∀ b ∈ joinL 32 P, b.toNat ≤ 63 := by
    intro b hb
    rcases joinL_mem hb with h | ⟨p, hp, h⟩
    · subst h; decide
    · exact ((hP p hp).2 b h).2
  have hends : ∀ b, (∃ p ∈ P, b ∈ p) → b ≠ 32 ∧ b ≠ 9 := by
    rintro b ⟨p, hp, h⟩
    have := (hP p hp).2 b h
    constructor <;> (intro e; subst e; simp at this)
  have hd := noDbl_join P hP
  have hjn : joinL 32 P ≠ [] := joinL_ne _ _ hne (fun p hp => (hP p hp).1)
  unfold gronx_normalize.f
  refine Ev.bind (f := fun k t174 => ((strings_ToLower.f t174).bind fun t175 => ((gronx_expression.f t175).bind fun bt176 => (if bt176.2 = true then (gronx_normalize.j0 k bt176.1) else (gronx_normalize.j0 k t174))))) (zzTrim_ev _ (by omega) hjn (fun b hb => hends b (head_join 32 P hne (fun p hp => (hP p hp).1) b hb)) (fun b hb => hends b (getLast_join 32 P hne (fun p hp => (hP p hp).1) b hb))) ?_
  refine Ev.congr (f := fun k => gronx_normalize.j0 k (B (joinL 32 P))) (fun k => ?_) ?_
  · simp only [toLower_plain _ (by omega : (joinL 32 P).length ≤ 140737488355328) h63, Option.bind_some, expression_no _ h63]
    rw [if_neg (by simp)]
  · refine Ev.step (f := fun k => (gronx_zzSpaces.f k (B (joinL 32 P))).bind fun t178 => ((strings_ToUpper.f t178).bind fun t179 => ((gronx_zzLiterals.f k t179).bind fun t180 => ((gronx_zzReplaceAll.f k t180 (⟨#[32, 32]⟩ : ByteArray) (⟨#[32]⟩ : ByteArray)).bind fun t181 => ((gronx_zzSplit.f k t181 (⟨#[32]⟩ : ByteArray)).bind fun t182 => (some t182)))))) (fun k => by simp only [gronx_normalize.j0]) ?_
    refine Ev.bind (zzSpaces_ev _ (by omega) hd hpl) ?_
    refine Ev.congr (f := fun k => (gronx_zzLiterals.f k (B (joinL 32 P))).bind fun t180 => ((gronx_zzReplaceAll.f k t180 (⟨#[32, 32]⟩ : ByteArray) (⟨#[32]⟩ : ByteArray)).bind fun t181 => ((gronx_zzSplit.f k t181 (⟨#[32]⟩ : ByteArray)).bind fun t182 => (some t182)))) (fun k => by rw [toUpper_plain _ (by omega : (joinL 32 P).length ≤ 140737488355328) h63]; rfl) ?_
    refine Ev.bind (zzLiterals_ev _ (by omega) h63) ?_
    refine Ev.bind (f := fun k t181 => ((gronx_zzSplit.f k t181 (⟨#[32]⟩ : ByteArray)).bind fun t182 => (some t182))) (zzReplace_no _ [32, 32] [32] (by simp) (by simp) (noDbl_idx _ hd 0) (by omega)) ?_
    have hs := zzSplit_ev 32 (joinL 32 P) hl
    rw [splitL_join 32 P hne (fun p hp e => by have := (hP p hp).2 32 e; simp at this)] at hs
    exact Ev.bind hs (Ev.const rfl)
theorem segments_ev (P : List (List UInt8)) (hP : ∀ p ∈ P, PartOk p) (hl : (joinL 32 P).length < 8796093022208) (h5 : 5 ≤ P.length) (h7 : P.length ≤ 7) (h5l : ∀ h : P.length = 6, (P[5]'(by omega)).length < 4611686018427387904) :
    Ev (fun k => gronx_Segments.f k (B (joinL 32 P))) (((if P.length = 5 ∨ (∃ h : P.length = 6, hasYr (P[5]'(by omega)) 0 = true) then [48] :: P else P).map B), none) := by
  have hne : P ≠ [] := by intro e; rw [e] at h5; simp at h5
  unfold gronx_Segments.f
  refine Ev.bind (f := fun k t185 => (if (t185.length : Int) < 5 then (gronx_Segments.j0 k t185 (t185.length : Int) true) else (gronx_Segments.j0 k t185 (t185.length : Int) (decide ((t185.length : Int) > 7))))) (normalize_ev P hne hP hl) ?_
  rw [List.length_map]
  refine Ev.congr (f := fun k => gronx_Segments.j0 k (P.map B) (P.length : Int) false) (fun k => ?_) ?_
  · rw [if_neg (by omega), decide_eq_false (by omega)]
  by_cases e5 : P.length = 5
  · rw [if_pos (Or.inl e5)]
    refine Ev.done fun k => ?_
    simp only [gronx_Segments.j0]
    rw [if_neg (by simp), if_pos (by omega)]
    simp only [Option.bind_some]
    rw [if_pos (by simp; omega)]
    rfl
  · by_cases e6 : P.length = 6
    · have hy := zzHasYear_ev (P[5]'(by omega)) (h5l e6)
      have hrd : rdOf ByteArray.empty (P.map B) 5 = B (P[5]'(by omega)) := by simp [rdOf, e6]
      refine Ev.step (f := fun k => (gronx_zzHasYear.f k (B (P[5]'(by omega)))).bind fun t199 => (if t199 = true then ((some (([(⟨#[48]⟩ : ByteArray)] : List ByteArray) : List ByteArray)).bind fun y200 => (if y200.length + (P.map B).length < 8796093022208 then (some ((y200 ++ P.map B), none)) else (none))) else (some (P.map B, none)))) (fun k => ?_) (Ev.bind hy (Ev.const ?_))
      · simp only [gronx_Segments.j0]
        rw [if_neg (by simp), if_neg (by omega), if_pos (by omega), if_pos (by simp; omega), hrd]
      · cases hb : hasYr (P[5]'(by omega)) 0 with
        | true =>
          rw [if_pos rfl, if_pos (Or.inr ⟨e6, hb⟩)]
          simp only [Option.bind_some]
          rw [if_pos (by simp; omega)]
          rfl
        | false =>
          rw [if_neg (by simp), if_neg (by rintro (h | ⟨_, h⟩); omega; rw [hb] at h; cases h)]
    · rw [if_neg (by rintro (h | ⟨h, _⟩) <;> omega)]
      refine Ev.done fun k => ?_
      simp only [gronx_Segments.j0]
      rw [if_neg (by simp), if_neg (by omega), if_neg (by omega)]
def nd (c : UInt8) : Prop := c.toNat < 48 ∨ 57 < c.toNat
theorem decN_part (n : Nat) : ∀ b ∈ decN n, 33 ≤ b.toNat ∧ b.toNat ≤ 63 := fun b hb => by have := decN_digit n b hb; omega
theorem itemL_part (x : It) : ∀ b ∈ itemL x, 33 ≤ b.toNat ∧ b.toNat ≤ 63 := by
  have hs : ∀ b ∈ stepL x.f3, 33 ≤ b.toNat ∧ b.toNat ≤ 63 := by
    intro b hb
    unfold stepL at hb
    split at hb
    · rcases List.mem_cons.1 hb with h | h
      · subst h; decide
      · exact decN_part _ b h
    · cases hb
  intro b hb
  unfold itemL at hb
  split at hb
  · rcases List.mem_cons.1 hb with h | h
    · subst h; decide
    · exact hs b h
  · rcases List.mem_append.1 hb with h | h
    · exact decN_part _ b h
    · rcases List.mem_append.1 h with h | h
      · split at h
        · rcases List.mem_cons.1 h with h | h
          · subst h; decide
          · exact decN_part _ b h
        · cases h
      · exact hs b h
theorem field_part {i : Nat} {l : List It} (h : goodF i l = true) : PartOk (fieldL l) := by
  refine ⟨fieldL_ne h, fun b hb => ?_⟩
  rcases joinL_mem hb with h | ⟨p, hp, h⟩
  · subst h; decide
  · obtain ⟨x, _, rfl⟩ := List.mem_map.1 hp
    exact itemL_part x b h
theorem zeroF_field {l : List It} (h : zeroF l = true) : fieldL l = [48] := by
  unfold zeroF at h
  split at h
  · rename_i x
    simp only [Bool.and_eq_true, Bool.not_eq_true', beq_iff_eq] at h
    obtain ⟨⟨⟨h0, h1⟩, h2⟩, h3⟩ := h
    simp [fieldL, joinL, itemL, stepL, h0, h1, h2, h3, decN_lt]
  · cases h
end Go.Proofs.YtemgofomhjabpaaGreatDoor.Core
namespace Go.Proofs.YtemgofomhjabpaaGreatDoor.Core
open Go.RowKit Go.Proofs.YtemgofomhjabpaaGreatDoorW.PrintWords
def hasIt (i : Nat) (x : It) (n : Int) : Bool := decide ((if x.f0 then lowI i else x.f1) ≤ n ∧ n ≤ (if x.f0 then highI i else x.f2) ∧ (n - (if x.f0 then lowI i else x.f1)) % x.f3 = 0)
def hasF (i : Nat) (l : List It) (n : Int) : Bool := l.any fun x => hasIt i x n
theorem has_from (i : Nat) (hi : i < 6) (l : List It) (hg : ∀ x ∈ l, goodItem i x = true) (hl : l.length < 4611686018427387904) (n : Int) (n0 : 0 ≤ n) (n1 : n ≤ 10000) :
    ∀ (rest : List It) (j : Nat), l.drop j = rest → j ≤ l.length → Ev (fun k => spec_Has.l0 k (i : Int) n l (l.length : Int) (j : Int)) (hasF i rest n) := by
  intro rest
  induction rest with
  | nil =>
    intro j hj hjl
    have hlen : l.length ≤ j := List.drop_eq_nil_iff.1 hj
    refine Ev.done fun k => ?_
    simp only [spec_Has.l0]
    rw [if_neg (by omega)]
    rfl
  | cons x t ih =>
    intro j hj hjl
    have hlt : j < l.length := by
      rcases Nat.lt_or_ge j l.length with h | h
      · exact h
      · rw [List.drop_eq_nil_of_le h] at hj; cases hj
    have hx : l[j] = x := by
      have := List.drop_eq_getElem_cons hlt
      rw [hj] at this
      exact (List.cons.inj this).1.symm
    have ht : l.drop (j + 1) = t := by rw [← List.drop_drop, hj]; rfl
    have hrd := rdI_at l j hlt
    rw [hx] at hrd
    have hrec := ih (j + 1) ht (by omega)
    obtain ⟨s1, s2, hr⟩ := goodItem_spec (hg x (by rw [← hx]; exact List.getElem_mem hlt))
    have hlo := lowI_ge i
    have hw := wrap64_nat j (by omega)
    have hcons : hasF i (x :: t) n = (hasIt i x n || hasF i t n) := rfl
    rw [hcons]
    have hgo : hasIt i x n = false → Ev (fun k => spec_Has.l0 k (i : Int) n l (l.length : Int) ((j + 1 : Nat) : Int)) (hasIt i x n || hasF i t n) := fun e => by rw [e, Bool.false_or]; exact hrec
    by_cases h0 : x.f0 = true
    · have e0 : hasIt i x n = decide (lowI i ≤ n ∧ n ≤ highI i ∧ (n - lowI i) % x.f3 = 0) := by simp [hasIt, h0]
      by_cases g1 : lowI i ≤ n
      · by_cases g2 : n ≤ highI i
        · have hm : Int.tmod (wrap64 (n - lowI i)) x.f3 = (n - lowI i) % x.f3 := by rw [wrap64_id (by omega) (by omega), Int.tmod_eq_emod_of_nonneg (by omega)]
          by_cases g3 : (n - lowI i) % x.f3 = 0
          · rw [e0, decide_eq_true ⟨g1, g2, g3⟩, Bool.true_or]
            refine Ev.done fun k => ?_
            simp only [spec_Has.l0, hrd, low_some, high_some i hi, Option.bind_some, hm]
            rw [if_pos (by omega), if_pos (by omega), if_pos (by omega), if_pos h0, if_pos (by omega), if_pos (by omega), if_neg (by omega), if_pos g3]
          · refine Ev.step (fun k => ?_) (hgo (by rw [e0]; exact decide_eq_false (fun e => g3 e.2.2)))
            simp only [spec_Has.l0, hrd, low_some, high_some i hi, Option.bind_some, hm]
            rw [if_pos (by omega), if_pos (by omega), if_pos (by omega), if_pos h0, if_pos (by omega), if_pos (by omega), if_neg (by omega), if_neg g3, hw]
        · refine Ev.step (fun k => ?_) (hgo (by rw [e0]; exact decide_eq_false (fun e => g2 e.2.1)))
          simp only [spec_Has.l0, hrd, low_some, high_some i hi, Option.bind_some]
          rw [if_pos (by omega), if_pos (by omega), if_pos (by omega), if_pos h0, if_pos (by omega), if_neg (by omega), hw]
      · refine Ev.step (fun k => ?_) (hgo (by rw [e0]; exact decide_eq_false (fun e => g1 e.1)))
        simp only [spec_Has.l0, hrd, low_some, high_some i hi, Option.bind_some]
        rw [if_pos (by omega), if_pos (by omega), if_pos (by omega), if_pos h0, if_neg (by omega), hw]
    · have h0' : x.f0 = false := by simpa using h0
      obtain ⟨r1, r2, r3, _, _⟩ := hr h0'
      have e0 : hasIt i x n = decide (x.f1 ≤ n ∧ n ≤ x.f2 ∧ (n - x.f1) % x.f3 = 0) := by simp [hasIt, h0']
      by_cases g1 : x.f1 ≤ n
      · by_cases g2 : n ≤ x.f2
        · have hm : Int.tmod (wrap64 (n - x.f1)) x.f3 = (n - x.f1) % x.f3 := by rw [wrap64_id (by omega) (by omega), Int.tmod_eq_emod_of_nonneg (by omega)]
          by_cases g3 : (n - x.f1) % x.f3 = 0
          · rw [e0, decide_eq_true ⟨g1, g2, g3⟩, Bool.true_or]
            refine Ev.done fun k => ?_
            simp only [spec_Has.l0, hrd, hm]
            rw [if_pos (by omega), if_pos (by omega), if_pos (by omega), if_neg h0, if_pos (by omega), if_pos (by omega), if_neg (by omega), if_pos g3]
          · refine Ev.step (fun k => ?_) (hgo (by rw [e0]; exact decide_eq_false (fun e => g3 e.2.2)))
            simp only [spec_Has.l0, hrd, hm]
            rw [if_pos (by omega), if_pos (by omega), if_pos (by omega), if_neg h0, if_pos (by omega), if_pos (by omega), if_neg (by omega), if_neg g3, hw]
        · refine Ev.step (fun k => ?_) (hgo (by rw [e0]; exact decide_eq_false (fun e => g2 e.2.1)))
          simp only [spec_Has.l0, hrd]
          rw [if_pos (by omega), if_pos (by omega), if_pos (by omega), if_neg h0, if_pos (by omega), if_neg (by omega), hw]
      · refine Ev.step (fun k => ?_) (hgo (by rw [e0]; exact decide_eq_false (fun e => g1 e.1)))
        simp only [spec_Has.l0, hrd]
        rw [if_pos (by omega), if_pos (by omega), if_pos (by omega), if_neg h0, if_neg (by omega), hw]
theorem has_ev (i : Nat) (hi : i < 6) (l : List It) (hg : goodF i l = true) (n : Int) (n0 : 0 ≤ n) (n1 : n ≤ 10000) : Ev (fun k => spec_Has.f k (i : Int) l n) (hasF i l n) := by
  obtain ⟨h1, h2, h3⟩ := goodF_spec hg
  exact has_from i hi l h1 (by omega) n n0 n1 l 0 rfl (Nat.zero_le _)
end Go.Proofs.YtemgofomhjabpaaGreatDoor.Core
namespace Go.Proofs.YtemgofomhjabpaaGreatDoor.Core
open Go.RowKit Go.Proofs.YtemgofomhjabpaaGreatDoorW.PrintWords Go.Proofs.YtemgofomhjabpaaGreatDoorW.PrintLast Go.Proofs.YtemgofomhjabpaaGreatDoorW.PrintMore
attribute [local go_sem] max2_int min2_int max_two min_two max_three min_three max_four min_four   -- for this text's walks alone
set_option linter.unusedVariables false
set_option linter.unusedSimpArgs false
mutual
def gronx_inStepRange.l0 : Nat → Int → Int → Int → Int → Option (Bool)
  | 0, _, _, _, _ => none
  | k + 1, x0, x2, x3, x9 => if x9 ≤ x2 then (gronx_inStepRange.j1 k x0 x2 x3 x9 (decide (x9 ≤ x0))) else (gronx_inStepRange.j1 k x0 x2 x3 x9 false)
def gronx_inStepRange.j1 : Nat → Int → Int → Int → Int → Bool → Option (Bool)
  | 0, _, _, _, _, _ => none
  | k + 1, x0, x2, x3, x9, x18 => if x18 = true then (if x9 = x0 then (some true) else (gronx_inStepRange.l0 k x0 x2 x3 (wrap64 (x9 + x3)))) else (some false)
end
def gronx_inStepRange.f (k : Nat) (a0 : Int) (a1 : Int) (a2 : Int) (a3 : Int) : Option (Bool) := gronx_inStepRange.l0 k a0 a2 a3 a1
set_option maxHeartbeats 8000000 in
set_option maxRecDepth 100000 in
theorem gronx_inStepRange.calls (k : Nat) (a0 : Int) (a1 : Int) (a2 : Int) (a3 : Int) (r : Bool) (w : World) (h : gronx_inStepRange.f k a0 a1 a2 a3 = some r) :
    Calls Tryz.prog 147 #[.int .i64 a0, .int .i64 a1, .int .i64 a2, .int .i64 a3] w fun e w' => e = .returned (.bool r) ∧ Drawn0 w w' := by
  have H : (gronx_inStepRange.l0 k a0 a2 a3 a1) = some r := h
  clear h
  have H' := Aside0.mk H
  clear H
  go_enter Tryz.func147, Tryz.ntmps147
  go_wp2
  go_loopg [9] k (fun kq v9 w' => ∃ (x9_1 : Int), v9 = .int .i64 x9_1 ∧ Aside0 (gronx_inStepRange.l0 kq a0 a2 a3 x9_1 = some r) ∧ Aside0 (kq ≤ k) ∧ Drawn0 w w')
  case atStart => exact ⟨(a1), (by first | rfl | (simp; done) | (simp [*]; done)), H', ⟨Nat.le_refl _⟩, by repeat (first | exact Drawn0.refl _ | apply Drawn0.step)⟩
  case round =>
    clear H'
    try clear c1
    try clear p2
    obtain ⟨x9_1, rfl, HA, HK1, ⟨m1, rfl⟩⟩ := hrel
    cases gk with
    | zero => exact absurd HA.out (by simp [gronx_inStepRange.l0])
    | succ k1 =>
      have H := HA.out
      clear HA
      simp only [gronx_inStepRange.l0] at H
      have HC5 := Aside0.mk H
      clear H
      go_upto_region 2 with (fail)
      go_cut [18] (fun v18 wc => ∃ (kq : Nat) (x18_4 : Bool), v18 = .bool x18_4 ∧ Aside0 (gronx_inStepRange.j1 kq a0 a2 a3 x9_1 x18_4 = some r) ∧ Aside0 (kq ≤ k1) ∧ Drawn0 w wc)
      case first =>
        have H := HC5.out
        clear HC5
        by_cases c6 : x9_1 ≤ a2
        · rw [if_pos c6] at H
          have c6b0 : decide (x9_1 ≤ a2) = true := decide_eq_true c6
          clear c6
          (first | rw [c6b0] | (simp only [i64_w, i32_w]; rw [c6b0]) | skip)
          have H' := Aside0.mk H
          clear H
          go_wp2
          go_meet
          case rel => exact ⟨_, (decide (x9_1 ≤ a0)), (by first | rfl | (simp; done) | (simp [*]; done)), H', ⟨by have := HK1.out; first | omega | exact Nat.le_refl _⟩, by repeat (first | exact Drawn0.refl _ | apply Drawn0.step)⟩
        · rw [if_neg c6] at H
          have c6b0 : decide (x9_1 ≤ a2) = false := decide_eq_false c6
          clear c6
          (first | rw [c6b0] | (simp only [i64_w, i32_w]; rw [c6b0]) | skip)
          have H' := Aside0.mk H
          clear H
          go_wp2
          go_meet
          case rel => exact ⟨_, (false), (by first | rfl | (simp; done) | (simp [*]; done)), H', ⟨by have := HK1.out; first | omega | exact Nat.le_refl _⟩, by repeat (first | exact Drawn0.refl _ | apply Drawn0.step)⟩
      case rest =>
        clear HC5
        try clear c1
        try clear p2
        try clear c6
        try clear c6b0
        try clear p2
        obtain ⟨kq, x18_4, rfl, HA, HJ4, ⟨mc4, rfl⟩⟩ := hcut
        cases kq with
        | zero => exact absurd HA.out (by simp [gronx_inStepRange.j1])
        | succ kj4 =>
          have H := HA.out
          clear HA
          simp only [gronx_inStepRange.j1] at H
          by_cases c7 : x18_4 = true
          · subst c7
            have H1 : (if x9_1 = a0 then (some true) else (gronx_inStepRange.l0 kj4 a0 a2 a3 (wrap64 (x9_1 + a3)))) = some r := by rw [if_pos rfl] at H; exact H
            clear H
            have H := H1
            clear H1
            by_cases c8 : x9_1 = a0
            · rw [if_pos c8] at H
              have c8b0 : (x9_1 == a0) = true := beq_iff_eq.mpr c8
              have c8b1 : (x9_1 != a0) = false := bne_eq_false_iff_eq.mpr c8
              clear c8
              obtain rfl := Option.some.inj H
              go_wp2
              go_ret
              exact ⟨by first | rfl | (simp; done) | (simp [*]; done), by repeat (first | exact Drawn0.refl _ | apply Drawn0.step)⟩
            · rw [if_neg c8] at H
              have c8b0 : (x9_1 == a0) = false := beq_eq_false_iff_ne.mpr c8
              have c8b1 : (x9_1 != a0) = true := bne_iff_ne.mpr c8
              have H' := Aside0.mk H
              clear H
              go_wp2
              go_roundg kj4
              case measure => have := HK1.out; have := HJ4.out; omega
              case rel => exact ⟨(wrap64 (x9_1 + a3)), (by first | rfl | (simp; done) | (simp [*]; done)), H', ⟨by have := HK1.out; have := HJ4.out; omega⟩, by repeat (first | exact Drawn0.refl _ | apply Drawn0.step)⟩
          · replace c7 := Bool.eq_false_iff.mpr c7
            subst c7
            have H1 : (some false) = some r := by rw [if_neg (show ¬ (false = true) by decide)] at H; exact H
            clear H
            have H := H1
            clear H1
            obtain rfl := Option.some.inj H
            go_wp2
            go_ret
            exact ⟨by first | rfl | (simp; done) | (simp [*]; done), by repeat (first | exact Drawn0.refl _ | apply Drawn0.step)⟩
end Go.Proofs.YtemgofomhjabpaaGreatDoor.Core
namespace Go.Proofs.YtemgofomhjabpaaGreatDoor.Core
open Go.RowKit Go.Proofs.YtemgofomhjabpaaGreatDoorW.PrintWords Go.Proofs.YtemgofomhjabpaaGreatDoorW.PrintLast Go.Proofs.YtemgofomhjabpaaGreatDoorW.PrintMore
attribute [local go_sem] max2_int min2_int max_two min_two max_three min_three max_four min_four   -- for this text's walks alone
set_option linter.unusedVariables false
set_option linter.unusedSimpArgs false
def gronx_boundsByPos.j0 : Nat → List Int → Int → Bool → Option (List Int)
  | 0, _, _, _ => none
  | k + 1, x2, x4, x5 => if x5 = true then (some (([0, 59] : List Int))) else (if x4 = 2 then (some (([0, 23] : List Int))) else (if x4 = 3 then (some (([1, 31] : List Int))) else (if x4 = 4 then (some (([1, 12] : List Int))) else (if x4 = 5 then (some (([0, 7] : List Int))) else (if x4 = 6 then (some (([0, 9999] : List Int))) else (some x2))))))
def gronx_boundsByPos.f (k : Nat) (a0 : Int) : Option (List Int) := (some (([0, 0] : List Int) : List Int)).bind fun y476 => (if a0 = 0 then (gronx_boundsByPos.j0 k y476 a0 (a0 == 0)) else (gronx_boundsByPos.j0 k y476 a0 (a0 == 1)))
set_option maxHeartbeats 8000000 in
set_option maxRecDepth 100000 in
theorem gronx_boundsByPos.calls (k : Nat) (a0 : Int) (r : List Int) (w : World) (h : gronx_boundsByPos.f k a0 = some r) :
    Calls Tryz.prog 132 #[.int .i64 a0] w fun e w' => ∃ v0_ : Value, e = .returned (v0_) ∧ Kd.R (Kd.int .i64) 3 w' w.heap.size (fun _ => True) v0_ r ∧ Below w.heap.size w w' := by
  have HB := Aside0.mk (Below.refl w.heap.size w)
  have H : ((some (([0, 0] : List Int) : List Int)).bind fun y476 => (if a0 = 0 then (gronx_boundsByPos.j0 k y476 a0 (a0 == 0)) else (gronx_boundsByPos.j0 k y476 a0 (a0 == 1)))) = some r := h
  clear h
  obtain ⟨y476, hy476⟩ : ∃ y_ : List Int, y_ = (([0, 0] : List Int)) := ⟨_, rfl⟩
  replace H : (if a0 = 0 then (gronx_boundsByPos.j0 k y476 a0 (a0 == 0)) else (gronx_boundsByPos.j0 k y476 a0 (a0 == 1))) = some r := by first | (rw [hy476]; with_reducible exact H) | (have H2_ := (Option.bind_some _ _).symm.trans H; rw [hy476]; with_reducible exact H2_) | (have H2_ := (Option.bind_some _ _).symm.trans H; with_reducible exact H2_) | with_reducible exact H | (rw [hy476]; exact H) | exact H
  have Ny476 := Aside0.mk hy476
  clear hy476
  have HC2 := Aside0.mk H
  clear H
  go_enter Tryz.func132, Tryz.ntmps132
  go_upto_if 5 with (first | ((with_reducible refine gate_dst (N := 3) rfl ?_); refine Kd.R_lit (Kd.int .i64) _ 3 ?hg (N := 3) ?hd (xs := ([0, 0] : List Int)) (inner := [.int .i64 0, .int .i64 0]) (ok := fun _ => True) (okp := fun _ => True) ?hr ?hp (fun _ hk => hk) trivial (Below.refl _ _) (Nat.le_refl _) (by simp) ?_; (case hd => rfl); (case hg => rfl); (case hr => first | (go_simp; done) | (go_simp; rfl)); (case hp => exact (Reps.one (show Kd.M (Kd.int .i64) _ _ _ 0 [.int .i64 0] from rfl) (Reps.one (show Kd.M (Kd.int .i64) _ _ _ 0 [.int .i64 0] from rfl) (Reps.none _ _)))); intro v477 w3 ho4 hb hg_ hnew_; clear hg_ hnew_; (first | rw [← Ny476.out] at ho4 | (simp only [Int.reduceToNat] at ho4; rw [← Ny476.out] at ho4)); have n0_ := Aside0.mk (Kd.R_lower ho4 (below_size (by repeat (first | (with_reducible first | exact HB.out | apply below_alloc | apply pw_below_drewN | apply below_drew1) | exact HB.out)))); have n1_ := Aside0.mk (below_step (by repeat (first | (with_reducible first | exact HB.out | apply below_alloc | apply pw_below_drewN | apply below_drew1) | exact HB.out)) hb); clear HB; have HO478 := n0_; have HB := n1_; clear n0_ n1_; clear hb ho4))
  (try simp only [Act.put, List.setIfInBounds_toArray, List.set_cons_zero, List.set_cons_succ])
  go_cut [5] (fun v5 wc => ∃ (kq : Nat) (x5_1 : Bool), v5 = .bool x5_1 ∧ Aside0 (gronx_boundsByPos.j0 kq y476 a0 x5_1 = some r) ∧ Aside0 (kq ≤ k) ∧ Aside0 (Kd.R (Kd.int .i64) 3 wc w.heap.size (fun _ => True) v477 y476) ∧ Aside0 (Below w.heap.size w wc))
  case first =>
    have H := HC2.out
    clear HC2
    by_cases c5 : a0 = 0
    · rw [if_pos c5] at H
      have c5b0 : (a0 == 0) = true := beq_iff_eq.mpr c5
      have c5b1 : (a0 != 0) = false := bne_eq_false_iff_eq.mpr c5
      clear c5
      (first | rw [c5b0] | (simp only [i64_w, i32_w]; rw [c5b0]) | skip)
      have H' := Aside0.mk H
      clear H
      go_wp2
      go_meet
      case rel => exact ⟨_, ((a0 == 0)), (by first | rfl | (simp; done) | (simp [*]; done)), H', ⟨by first | omega | exact Nat.le_refl _⟩, ⟨by (with_reducible repeat (first | apply Kd.R_alloc | apply Kd.R_drewN | apply Kd.R_drew)); exact HO478.out⟩, ⟨by repeat (first | (with_reducible first | exact HB.out | apply below_alloc | apply pw_below_drewN | apply below_drew1) | exact HB.out)⟩⟩
    · rw [if_neg c5] at H
      have c5b0 : (a0 == 0) = false := beq_eq_false_iff_ne.mpr c5
      have c5b1 : (a0 != 0) = true := bne_iff_ne.mpr c5
      (first | rw [c5b0] | (simp only [i64_w, i32_w]; rw [c5b0]) | skip)
      have H' := Aside0.mk H
      clear H
      go_wp2
      go_meet
      case rel => exact ⟨_, ((a0 == 1)), (by first | rfl | (simp; done) | (simp [*]; done)), H', ⟨by first | omega | exact Nat.le_refl _⟩, ⟨by (with_reducible repeat (first | apply Kd.R_alloc | apply Kd.R_drewN | apply Kd.R_drew)); exact HO478.out⟩, ⟨by repeat (first | (with_reducible first | exact HB.out | apply below_alloc | apply pw_below_drewN | apply below_drew1) | exact HB.out)⟩⟩
  case rest =>
    clear HC2
    try clear c1
    try clear p2
    try clear c5
    try clear c5b0
    try clear c5b1
    obtain ⟨kq, x5_1, rfl, HA, HJ1, HO_2, HB⟩ := hcut
    cases kq with
    | zero => exact absurd HA.out (by simp [gronx_boundsByPos.j0])
    | succ kj1 =>
      have H := HA.out
      clear HA
      simp only [gronx_boundsByPos.j0] at H
      by_cases c6 : x5_1 = true
      · subst c6
        have H1 : (some (([0, 59] : List Int))) = some r := by rw [if_pos rfl] at H; exact H
        clear H
        have H := H1
        clear H1
        obtain ⟨y479, hy479⟩ : ∃ y_ : List Int, y_ = (([0, 59] : List Int)) := ⟨_, rfl⟩
        replace H : (some y479) = some r := by first | (rw [hy479]; with_reducible exact H) | (have H2_ := (Option.bind_some _ _).symm.trans H; rw [hy479]; with_reducible exact H2_) | (have H2_ := (Option.bind_some _ _).symm.trans H; with_reducible exact H2_) | with_reducible exact H | (rw [hy479]; exact H) | exact H
        have Ny479 := Aside0.mk hy479
        clear hy479
        obtain rfl := Option.some.inj H
        go_wp2_with (first | ((with_reducible refine gate_dst (N := 8) rfl ?_); refine Kd.R_lit (Kd.int .i64) _ 3 ?hg (N := 8) ?hd (xs := ([0, 59] : List Int)) (inner := [.int .i64 0, .int .i64 59]) (ok := fun _ => True) (okp := fun _ => True) ?hr ?hp (fun _ hk => hk) trivial (Below.refl _ _) (Nat.le_refl _) (by simp) ?_; (case hd => rfl); (case hg => rfl); (case hr => first | (go_simp; done) | (go_simp; rfl)); (case hp => exact (Reps.one (show Kd.M (Kd.int .i64) _ _ _ 0 [.int .i64 0] from rfl) (Reps.one (show Kd.M (Kd.int .i64) _ _ _ 59 [.int .i64 59] from rfl) (Reps.none _ _)))); intro v480 w7 ho8 hb hg_ hnew_; clear hg_ hnew_; (first | rw [← Ny479.out] at ho8 | (simp only [Int.reduceToNat] at ho8; rw [← Ny479.out] at ho8)); have n0_ := Aside0.mk (Kd.R_elder' (by (with_reducible repeat (first | apply Kd.R_alloc | apply Kd.R_drewN | apply Kd.R_drew)); exact HO_2.out) (Kd.R_base ho8) hb); have n1_ := Aside0.mk (Kd.R_lower (Kd.R_new' ho8 (Kd.R_lt (by (with_reducible repeat (first | apply Kd.R_alloc | apply Kd.R_drewN | apply Kd.R_drew)); exact HO_2.out))) (below_size (by repeat (first | (with_reducible first | exact HB.out | apply below_alloc | apply pw_below_drewN | apply below_drew1) | exact HB.out)))); have n2_ := Aside0.mk (below_step (by repeat (first | (with_reducible first | exact HB.out | apply below_alloc | apply pw_below_drewN | apply below_drew1) | exact HB.out)) hb); clear HO_2; clear HB; have HO_2 := n0_; have HO481 := n1_; have HB := n2_; clear n0_ n1_ n2_; clear hb ho8))
        go_ret
        exact ⟨_, by first | rfl | (simp [errW_none, errW_some] <;> rfl) | (simp [*, errW_none, errW_some] <;> rfl), by (with_reducible repeat (first | apply Kd.R_alloc | apply Kd.R_drewN | apply Kd.R_drew)); exact Kd.R_mono HO481.out (fun _ hk => trivial), by repeat (first | (with_reducible first | exact HB.out | apply below_alloc | apply pw_below_drewN | apply below_drew1) | exact HB.out)⟩
      · replace c6 := Bool.eq_false_iff.mpr c6
        subst c6
        have H1 : (if a0 = 2 then (some (([0, 23] : List Int))) else (if a0 = 3 then (some (([1, 31] : List Int))) else (if a0 = 4 then (some (([1, 12] : List Int))) else (if a0 = 5 then (some (([0, 7] : List Int))) else (if a0 = 6 then (some (([0, 9999] : List Int))) else (some y476)))))) = some r := by rw [if_neg (show ¬ (false = true) by decide)] at H; exact H
        clear H
        have H := H1
        clear H1
        by_cases c9 : a0 = 2
        · rw [if_pos c9] at H
          have c9b0 : (a0 == 2) = true := beq_iff_eq.mpr c9
          have c9b1 : (a0 != 2) = false := bne_eq_false_iff_eq.mpr c9
          clear c9
          obtain ⟨y482, hy482⟩ : ∃ y_ : List Int, y_ = (([0, 23] : List Int)) := ⟨_, rfl⟩
          replace H : (some y482) = some r := by first | (rw [hy482]; with_reducible exact H) | (have H2_ := (Option.bind_some _ _).symm.trans H; rw [hy482]; with_reducible exact H2_) | (have H2_ := (Option.bind_some _ _).symm.trans H; with_reducible exact H2_) | with_reducible exact H | (rw [hy482]; exact H) | exact H
          have Ny482 := Aside0.mk hy482
          clear hy482
          obtain rfl := Option.some.inj H
          go_wp2_with (first | ((with_reducible refine gate_dst (N := 11) rfl ?_); refine Kd.R_lit (Kd.int .i64) _ 3 ?hg (N := 11) ?hd (xs := ([0, 23] : List Int)) (inner := [.int .i64 0, .int .i64 23]) (ok := fun _ => True) (okp := fun _ => True) ?hr ?hp (fun _ hk => hk) trivial (Below.refl _ _) (Nat.le_refl _) (by simp) ?_; (case hd => rfl); (case hg => rfl); (case hr => first | (go_simp; done) | (go_simp; rfl)); (case hp => exact (Reps.one (show Kd.M (Kd.int .i64) _ _ _ 0 [.int .i64 0] from rfl) (Reps.one (show Kd.M (Kd.int .i64) _ _ _ 23 [.int .i64 23] from rfl) (Reps.none _ _)))); intro v483 w10 ho11 hb hg_ hnew_; clear hg_ hnew_; (first | rw [← Ny482.out] at ho11 | (simp only [Int.reduceToNat] at ho11; rw [← Ny482.out] at ho11)); have n0_ := Aside0.mk (Kd.R_elder' (by (with_reducible repeat (first | apply Kd.R_alloc | apply Kd.R_drewN | apply Kd.R_drew)); exact HO_2.out) (Kd.R_base ho11) hb); have n1_ := Aside0.mk (Kd.R_lower (Kd.R_new' ho11 (Kd.R_lt (by (with_reducible repeat (first | apply Kd.R_alloc | apply Kd.R_drewN | apply Kd.R_drew)); exact HO_2.out))) (below_size (by repeat (first | (with_reducible first | exact HB.out | apply below_alloc | apply pw_below_drewN | apply below_drew1) | exact HB.out)))); have n2_ := Aside0.mk (below_step (by repeat (first | (with_reducible first | exact HB.out | apply below_alloc | apply pw_below_drewN | apply below_drew1) | exact HB.out)) hb); clear HO_2; clear HB; have HO_2 := n0_; have HO484 := n1_; have HB := n2_; clear n0_ n1_ n2_; clear hb ho11))
          go_ret
          exact ⟨_, by first | rfl | (simp [errW_none, errW_some] <;> rfl) | (simp [*, errW_none, errW_some] <;> rfl), by (with_reducible repeat (first | apply Kd.R_alloc | apply Kd.R_drewN | apply Kd.R_drew)); exact Kd.R_mono HO484.out (fun _ hk => trivial), by repeat (first | (with_reducible first | exact HB.out | apply below_alloc | apply pw_below_drewN | apply below_drew1) | exact HB.out)⟩
        · rw [if_neg c9] at H
          have c9b0 : (a0 == 2) = false := beq_eq_false_iff_ne.mpr c9
          have c9b1 : (a0 != 2) = true := bne_iff_ne.mpr c9
          by_cases c12 : a0 = 3
          · rw [if_pos c12] at H
            have c12b0 : (a0 == 3) = true := beq_iff_eq.mpr c12
            have c12b1 : (a0 != 3) = false := bne_eq_false_iff_eq.mpr c12
            clear c12
            obtain ⟨y485, hy485⟩ : ∃ y_ : List Int, y_ = (([1, 31] : List Int)) := ⟨_, rfl⟩
            replace H : (some y485) = some r := by first | (rw [hy485]; with_reducible exact H) | (have H2_ := (Option.bind_some _ _).symm.trans H; rw [hy485]; with_reducible exact H2_) | (have H2_ := (Option.bind_some _ _).symm.trans H; with_reducible exact H2_) | with_reducible exact H | (rw [hy485]; exact H) | exact H
            have Ny485 := Aside0.mk hy485
            clear hy485
            obtain rfl := Option.some.inj H
            go_wp2_with (first | ((with_reducible refine gate_dst (N := 14) rfl ?_); refine Kd.R_lit (Kd.int .i64) _ 3 ?hg (N := 14) ?hd (xs := ([1, 31] : List Int)) (inner := [.int .i64 1, .int .i64 31]) (ok := fun _ => True) (okp := fun _ => True) ?hr ?hp (fun _ hk => hk) trivial (Below.refl _ _) (Nat.le_refl _) (by simp) ?_; (case hd => rfl); (case hg => rfl); (case hr => first | (go_simp; done) | (go_simp; rfl)); (case hp => exact (Reps.one (show Kd.M (Kd.int .i64) _ _ _ 1 [.int .i64 1] from rfl) (Reps.one (show Kd.M (Kd.int .i64) _ _ _ 31 [.int .i64 31] from rfl) (Reps.none _ _)))); intro v486 w13 ho14 hb hg_ hnew_; clear hg_ hnew_; (first | rw [← Ny485.out] at ho14 | (simp only [Int.reduceToNat] at ho14; rw [← Ny485.out] at ho14)); have n0_ := Aside0.mk (Kd.R_elder' (by (with_reducible repeat (first | apply Kd.R_alloc | apply Kd.R_drewN | apply Kd.R_drew)); exact HO_2.out) (Kd.R_base ho14) hb); have n1_ := Aside0.mk (Kd.R_lower (Kd.R_new' ho14 (Kd.R_lt (by (with_reducible repeat (first | apply Kd.R_alloc | apply Kd.R_drewN | apply Kd.R_drew)); exact HO_2.out))) (below_size (by repeat (first | (with_reducible first | exact HB.out | apply below_alloc | apply pw_below_drewN | apply below_drew1) | exact HB.out)))); have n2_ := Aside0.mk (below_step (by repeat (first | (with_reducible first | exact HB.out | apply below_alloc | apply pw_below_drewN | apply below_drew1) | exact HB.out)) hb); clear HO_2; clear HB; have HO_2 := n0_; have HO487 := n1_; have HB := n2_; clear n0_ n1_ n2_; clear hb ho14))
            go_ret
            exact ⟨_, by first | rfl | (simp [errW_none, errW_some] <;> rfl) | (simp [*, errW_none, errW_some] <;> rfl), by (with_reducible repeat (first | apply Kd.R_alloc | apply Kd.R_drewN | apply Kd.R_drew)); exact Kd.R_mono HO487.out (fun _ hk => trivial), by repeat (first | (with_reducible first | exact HB.out | apply below_alloc | apply pw_below_drewN | apply below_drew1) | exact HB.out)⟩
          · rw [if_neg c12] at H
            have c12b0 : (a0 == 3) = false := beq_eq_false_iff_ne.mpr c12
            have c12b1 : (a0 != 3) = true := bne_iff_ne.mpr c12
            by_cases c15 : a0 = 4
            · rw [if_pos c15] at H
              have c15b0 : (a0 == 4) = true := beq_iff_eq.mpr c15
              have c15b1 : (a0 != 4) = false := bne_eq_false_iff_eq.mpr c15
              clear c15
              obtain ⟨y488, hy488⟩ : ∃ y_ : List Int, y_ = (([1, 12] : List Int)) := ⟨_, rfl⟩
              replace H : (some y488) = some r := by first | (rw [hy488]; with_reducible exact H) | (have H2_ := (Option.bind_some _ _).symm.trans H; rw [hy488]; with_reducible exact H2_) | (have H2_ := (Option.bind_some _ _).symm.trans H; with_reducible exact H2_) | with_reducible exact H | (rw [hy488]; exact H) | exact H
              have Ny488 := Aside0.mk hy488
              clear hy488
              obtain rfl := Option.some.inj H
              go_wp2_with (first | ((with_reducible refine gate_dst (N := 17) rfl ?_); refine Kd.R_lit (Kd.int .i64) _ 3 ?hg (N := 17) ?hd (xs := ([1, 12] : List Int)) (inner := [.int .i64 1, .int .i64 12]) (ok := fun _ => True) (okp := fun _ => True) ?hr ?hp (fun _ hk => hk) trivial (Below.refl _ _) (Nat.le_refl _) (by simp) ?_; (case hd => rfl); (case hg => rfl); (case hr => first | (go_simp; done) | (go_simp; rfl)); (case hp => exact (Reps.one (show Kd.M (Kd.int .i64) _ _ _ 1 [.int .i64 1] from rfl) (Reps.one (show Kd.M (Kd.int .i64) _ _ _ 12 [.int .i64 12] from rfl) (Reps.none _ _)))); intro v489 w16 ho17 hb hg_ hnew_; clear hg_ hnew_; (first | rw [← Ny488.out] at ho17 | (simp only [Int.reduceToNat] at ho17; rw [← Ny488.out] at ho17)); have n0_ := Aside0.mk (Kd.R_elder' (by (with_reducible repeat (first | apply Kd.R_alloc | apply Kd.R_drewN | apply Kd.R_drew)); exact HO_2.out) (Kd.R_base ho17) hb); have n1_ := Aside0.mk (Kd.R_lower (Kd.R_new' ho17 (Kd.R_lt (by (with_reducible repeat (first | apply Kd.R_alloc | apply Kd.R_drewN | apply Kd.R_drew)); exact HO_2.out))) (below_size (by repeat (first | (with_reducible first | exact HB.out | apply below_alloc | apply pw_below_drewN | apply below_drew1) | exact HB.out)))); have n2_ := Aside0.mk (below_step (by repeat (first | (with_reducible first | exact HB.out | apply below_alloc | apply pw_below_drewN | apply below_drew1) | exact HB.out)) hb); clear HO_2; clear HB; have HO_2 := n0_; have HO490 := n1_; have HB := n2_; clear n0_ n1_ n2_; clear hb ho17))
              go_ret
              exact ⟨_, by first | rfl | (simp [errW_none, errW_some] <;> rfl) | (simp [*, errW_none, errW_some] <;> rfl), by (with_reducible repeat (first | apply Kd.R_alloc | apply Kd.R_drewN | apply Kd.R_drew)); exact Kd.R_mono HO490.out (fun _ hk => trivial), by repeat (first | (with_reducible first | exact HB.out | apply below_alloc | apply pw_below_drewN | apply below_drew1) | exact HB.out)⟩
            · rw [if_neg c15] at H
              have c15b0 : (a0 == 4) = false := beq_eq_false_iff_ne.mpr c15
              have c15b1 : (a0 != 4) = true := bne_iff_ne.mpr c15
              by_cases c18 : a0 = 5
              · rw [if_pos c18] at H
                have c18b0 : (a0 == 5) = true := beq_iff_eq.mpr c18
                have c18b1 : (a0 != 5) = false := bne_eq_false_iff_eq.mpr c18
                clear c18
                obtain ⟨y491, hy491⟩ : ∃ y_ : List Int, y_ = (([0, 7] : List Int)) := ⟨_, rfl⟩
                replace H : (some y491) = some r := by first | (rw [hy491]; with_reducible exact H) | (have H2_ := (Option.bind_some _ _).symm.trans H; rw [hy491]; with_reducible exact H2_) | (have H2_ := (Option.bind_some _ _).symm.trans H; with_reducible exact H2_) | with_reducible exact H | (rw [hy491]; exact H) | exact H
                have Ny491 := Aside0.mk hy491
                clear hy491
                obtain rfl := Option.some.inj H
                go_wp2_with (first | ((with_reducible refine gate_dst (N := 20) rfl ?_); refine Kd.R_lit (Kd.int .i64) _ 3 ?hg (N := 20) ?hd (xs := ([0, 7] : List Int)) (inner := [.int .i64 0, .int .i64 7]) (ok := fun _ => True) (okp := fun _ => True) ?hr ?hp (fun _ hk => hk) trivial (Below.refl _ _) (Nat.le_refl _) (by simp) ?_; (case hd => rfl); (case hg => rfl); (case hr => first | (go_simp; done) | (go_simp; rfl)); (case hp => exact (Reps.one (show Kd.M (Kd.int .i64) _ _ _ 0 [.int .i64 0] from rfl) (Reps.one (show Kd.M (Kd.int .i64) _ _ _ 7 [.int .i64 7] from rfl) (Reps.none _ _)))); intro v492 w19 ho20 hb hg_ hnew_; clear hg_ hnew_; (first | rw [← Ny491.out] at ho20 | (simp only [Int.reduceToNat] at ho20; rw [← Ny491.out] at ho20)); have n0_ := Aside0.mk (Kd.R_elder' (by (with_reducible repeat (first | apply Kd.R_alloc | apply Kd.R_drewN | apply Kd.R_drew)); exact HO_2.out) (Kd.R_base ho20) hb); have n1_ := Aside0.mk (Kd.R_lower (Kd.R_new' ho20 (Kd.R_lt (by (with_reducible repeat (first | apply Kd.R_alloc | apply Kd.R_drewN | apply Kd.R_drew)); exact HO_2.out))) (below_size (by repeat (first | (with_reducible first | exact HB.out | apply below_alloc | apply pw_below_drewN | apply below_drew1) | exact HB.out)))); have n2_ := Aside0.mk (below_step (by repeat (first | (with_reducible first | exact HB.out | apply below_alloc | apply pw_below_drewN | apply below_drew1) | exact HB.out)) hb); clear HO_2; clear HB; have HO_2 := n0_; have HO493 := n1_; have HB := n2_; clear n0_ n1_ n2_; clear hb ho20))
                go_ret
                exact ⟨_, by first | rfl | (simp [errW_none, errW_some] <;> rfl) | (simp [*, errW_none, errW_some] <;> rfl), by (with_reducible repeat (first | apply Kd.R_alloc | apply Kd.R_drewN | apply Kd.R_drew)); exact Kd.R_mono HO493.out (fun _ hk => trivial), by repeat (first | (with_reducible first | exact HB.out | apply below_alloc | apply pw_below_drewN | apply below_drew1) | exact HB.out)⟩
              · rw [if_neg c18] at H
                have c18b0 : (a0 == 5) = false := beq_eq_false_iff_ne.mpr c18
                have c18b1 : (a0 != 5) = true := bne_iff_ne.mpr c18
                by_cases c21 : a0 = 6
                · rw [if_pos c21] at H
                  have c21b0 : (a0 == 6) = true := beq_iff_eq.mpr c21
                  have c21b1 : (a0 != 6) = false := bne_eq_false_iff_eq.mpr c21
                  clear c21
                  obtain ⟨y494, hy494⟩ : ∃ y_ : List Int, y_ = (([0, 9999] : List Int)) := ⟨_, rfl⟩
                  replace H : (some y494) = some r := by first | (rw [hy494]; with_reducible exact H) | (have H2_ := (Option.bind_some _ _).symm.trans H; rw [hy494]; with_reducible exact H2_) | (have H2_ := (Option.bind_some _ _).symm.trans H; with_reducible exact H2_) | with_reducible exact H | (rw [hy494]; exact H) | exact H
                  have Ny494 := Aside0.mk hy494
                  clear hy494
                  obtain rfl := Option.some.inj H
                  go_wp2_with (first | ((with_reducible refine gate_dst (N := 23) rfl ?_); refine Kd.R_lit (Kd.int .i64) _ 3 ?hg (N := 23) ?hd (xs := ([0, 9999] : List Int)) (inner := [.int .i64 0, .int .i64 9999]) (ok := fun _ => True) (okp := fun _ => True) ?hr ?hp (fun _ hk => hk) trivial (Below.refl _ _) (Nat.le_refl _) (by simp) ?_; (case hd => rfl); (case hg => rfl); (case hr => first | (go_simp; done) | (go_simp; rfl)); (case hp => exact (Reps.one (show Kd.M (Kd.int .i64) _ _ _ 0 [.int .i64 0] from rfl) (Reps.one (show Kd.M (Kd.int .i64) _ _ _ 9999 [.int .i64 9999] from rfl) (Reps.none _ _)))); intro v495 w22 ho23 hb hg_ hnew_; clear hg_ hnew_; (first | rw [← Ny494.out] at ho23 | (simp only [Int.reduceToNat] at ho23; rw [← Ny494.out] at ho23)); have n0_ := Aside0.mk (Kd.R_elder' (by (with_reducible repeat (first | apply Kd.R_alloc | apply Kd.R_drewN | apply Kd.R_drew)); exact HO_2.out) (Kd.R_base ho23) hb); have n1_ := Aside0.mk (Kd.R_lower (Kd.R_new' ho23 (Kd.R_lt (by (with_reducible repeat (first | apply Kd.R_alloc | apply Kd.R_drewN | apply Kd.R_drew)); exact HO_2.out))) (below_size (by repeat (first | (with_reducible first | exact HB.out | apply below_alloc | apply pw_below_drewN | apply below_drew1) | exact HB.out)))); have n2_ := Aside0.mk (below_step (by repeat (first | (with_reducible first | exact HB.out | apply below_alloc | apply pw_below_drewN | apply below_drew1) | exact HB.out)) hb); clear HO_2; clear HB; have HO_2 := n0_; have HO496 := n1_; have HB := n2_; clear n0_ n1_ n2_; clear hb ho23))
                  go_ret
                  exact ⟨_, by first | rfl | (simp [errW_none, errW_some] <;> rfl) | (simp [*, errW_none, errW_some] <;> rfl), by (with_reducible repeat (first | apply Kd.R_alloc | apply Kd.R_drewN | apply Kd.R_drew)); exact Kd.R_mono HO496.out (fun _ hk => trivial), by repeat (first | (with_reducible first | exact HB.out | apply below_alloc | apply pw_below_drewN | apply below_drew1) | exact HB.out)⟩
                · rw [if_neg c21] at H
                  have c21b0 : (a0 == 6) = false := beq_eq_false_iff_ne.mpr c21
                  have c21b1 : (a0 != 6) = true := bne_iff_ne.mpr c21
                  obtain rfl := Option.some.inj H
                  go_wp2
                  go_ret
                  exact ⟨_, by first | rfl | (simp [errW_none, errW_some] <;> rfl) | (simp [*, errW_none, errW_some] <;> rfl), by (with_reducible repeat (first | apply Kd.R_alloc | apply Kd.R_drewN | apply Kd.R_drew)); exact HO_2.out, by repeat (first | (with_reducible first | exact HB.out | apply below_alloc | apply pw_below_drewN | apply below_drew1) | exact HB.out)⟩
end Go.Proofs.YtemgofomhjabpaaGreatDoor.Core
namespace Go.Proofs.YtemgofomhjabpaaGreatDoor.Core
open Go.RowKit Go.Proofs.YtemgofomhjabpaaGreatDoorW.PrintWords Go.Proofs.YtemgofomhjabpaaGreatDoorW.PrintLast Go.Proofs.YtemgofomhjabpaaGreatDoorW.PrintMore
attribute [local go_sem] max2_int min2_int max_two min_two max_three min_three max_four min_four   -- for this text's walks alone
set_option linter.unusedVariables false
set_option linter.unusedSimpArgs false
def gronx_zzContains.f (k : Nat) (a0 : ByteArray) (a1 : ByteArray) : Option (Bool) := (gronx_zzIndex.f k a0 a1).bind fun t497 => (some (decide (t497 ≥ 0)))
set_option maxHeartbeats 8000000 in
set_option maxRecDepth 100000 in
theorem gronx_zzContains.calls (k : Nat) (a0 : ByteArray) (a1 : ByteArray) (r : Bool) (w : World) (h : gronx_zzContains.f k a0 a1 = some r) :
    Calls Tryz.prog 133 #[.string a0, .string a1] w fun e w' => e = .returned (.bool r) ∧ Drawn0 w w' := by
  have H : ((gronx_zzIndex.f k a0 a1).bind fun t497 => (some (decide (t497 ≥ 0)))) = some r := h
  clear h
  replace H := Option.bind_eq_some_iff.mp H
  obtain ⟨t497, A30, H⟩ := H
  replace H : (some (decide (t497 ≥ 0))) = some r := H
  have A3 := Aside0.mk A30
  clear A30
  obtain rfl := Option.some.inj H
  go_enter Tryz.func133, Tryz.ntmps133
  go_wp2_with (first | ((with_reducible refine gate_callee (f := 50) rfl ?_); refine goesL_ (some 7) rfl rfl Tryz.func50 (by kernel_rfl) rfl #[.string a0, .string a1] rfl (by (try simp only [List.map_toArray, List.map_cons, List.map_nil]); first | done | rfl | (simp only [List.length_drop, List.length_take]; rfl)) ?_; (with_reducible refine (gronx_zzIndex.calls k a0 a1 t497 _ A3.out).mono ?_); rintro e w' ⟨rfl, ⟨nd, rfl⟩⟩; refine ⟨_, rfl, ?_⟩))
  go_ret
  exact ⟨by first | rfl | (simp; done) | (simp [*]; done), by repeat (first | exact Drawn0.refl _ | apply Drawn0.step)⟩
end Go.Proofs.YtemgofomhjabpaaGreatDoor.Core
namespace Go.Proofs.YtemgofomhjabpaaGreatDoor.Core
open Go.RowKit Go.Proofs.YtemgofomhjabpaaGreatDoorW.PrintWords
def strconv_Atoi.f (a0 : ByteArray) : Option (Int × Option Int) := if a0.size ≤ 18 then ((Lib.atoi a0.data.toList).bind fun n => some (n, none)) else none
theorem strconv_Atoi.calls (a0 : ByteArray) (r1 : Int) (r2 : Option Int) (w : World) (h : strconv_Atoi.f a0 = some (r1, r2)) :
    Calls Tryz.prog 136 #[.string a0] w fun e w' => e = .returned (.tuple #[.int .i64 r1, errW r2]) ∧ Below w.heap.size w w' := by
  unfold strconv_Atoi.f at h
  split at h
  · rename_i h1
    obtain ⟨n, hn, h⟩ := Option.bind_eq_some_iff.1 h
    simp only [Option.some.injEq, Prod.mk.injEq] at h
    obtain ⟨rfl, rfl⟩ := h
    refine (Tryz.strconv_Atoi a0 n h1 hn w).mono ?_
    rintro e w' ⟨rfl, t, rfl⟩
    exact ⟨rfl, bytes_below (Below.refl _ _) (Nat.le_refl _) _ _⟩
  · cases h
end Go.Proofs.YtemgofomhjabpaaGreatDoor.Core
namespace Go.Proofs.YtemgofomhjabpaaGreatDoor.Core
open Go.RowKit Go.Proofs.YtemgofomhjabpaaGreatDoorW.PrintWords
def InC (f : FuncId) (val : Int) (s : ByteArray) (t : List Int) (wd r : Bool) : Prop := ∀ (A : Option Addr) (cc : Nat) (w : World), Kd.C (Kd.int .i64) w A t.length t → t.length ≤ cc → Calls Tryz.prog f #[.int .i64 val, .string s, .slice A t.length cc, .bool wd] w fun e w' => e = .returned (.tuple #[.bool r, .nilIface]) ∧ Below w.heap.size w w'
theorem two_at {w : World} {A : Option Addr} {P : List ByteArray} {n : Nat} (h : Kd.C Kd.string w A n P) (hn : n = P.length) (h2 : 1 < P.length) : ∃ ad, A = some ad ∧ w.cell? ad = some (.string (rdOf ByteArray.empty P 0)) ∧ w.cell? ⟨ad.block, ad.off + 1, none⟩ = some (.string (rdOf ByteArray.empty P 1)) := by
  subst hn
  obtain ⟨ad, rfl, hx0⟩ := Kd.at_string h 0 (by omega) (by omega)
  obtain ⟨ad', ea, hx1⟩ := Kd.at_string h 1 (by omega) (by omega)
  obtain rfl := Option.some.inj ea
  exact ⟨ad, rfl, hx0, hx1⟩
theorem two_int {w : World} {A : Option Addr} {t : List Int} {n : Nat} (h : Kd.C (Kd.int .i64) w A n t) (hn : n = t.length) (h2 : 1 < t.length) : ∃ ad, A = some ad ∧ w.cell? ad = some (.int .i64 (rd t 0)) ∧ w.cell? ⟨ad.block, ad.off + 1, none⟩ = some (.int .i64 (rd t 1)) := by
  subst hn
  obtain ⟨ad, rfl, hx0⟩ := Kd.at_int h 0 (by omega) (by omega)
  obtain ⟨ad', ea, hx1⟩ := Kd.at_int h 1 (by omega) (by omega)
  obtain rfl := Option.some.inj ea
  exact ⟨ad, rfl, hx0, hx1⟩
set_option maxRecDepth 100000 in
set_option maxHeartbeats 800000 in
theorem sstep_w (val step : Int) (s : ByteArray) (t : List Int) (wd : Bool) (k : Nat) (P : List ByteArray) (hs : gronx_zzSplit.f k s ⟨#[47]⟩ = some P) (hP : P.length = 2) (ha : strconv_Atoi.f (rdOf ByteArray.empty P 1) = some (step, none)) (s0 : 1 ≤ step) (s1 : step ≤ 1000) (hi : gronx_zzIndex.f k s ⟨#[42, 47]⟩ = some 0) (ht : t.length = 2) (hv0 : rd t 0 ≤ val) (hv1 : val ≤ 100000) (hv2 : 0 ≤ rd t 0) : InC 134 val s t wd (decide ((val - rd t 0) % step = 0)) := by
  intro A cc w hC hcc
  have hs := Aside0.mk hs
  have ha := Aside0.mk ha
  have hi := Aside0.mk hi
  obtain ⟨ab, rfl, u0, u1⟩ := two_int hC rfl (by omega)
  have hm : Int.tmod (val - rd t 0) step = (val - rd t 0) % step := Int.tmod_eq_emod_of_nonneg (by omega)
  have qi0 : (0 < t.length) = True := eq_true (by omega)
  have qi1 : (0 < (t.length : Int)) = True := eq_true (by omega)
  have qp0 : (1 < P.length) = True := eq_true (by omega)
  have qp1 : (1 < (P.length : Int)) = True := eq_true (by omega)
  have n0 : ¬ step ≤ 0 := by omega
  have n1 : step ≠ 0 := by omega
  have hw : wrap64 (val - rd t 0) = val - rd t 0 := by unfold wrap64; omega
  generalize rd t 0 = lo at *
  go_enter Tryz.func134, Tryz.ntmps134
  go_wp2_with (first | (go_at_call 62; refine (gronx_zzSplit.calls k _ _ _ _ hs.out).mono ?_; rintro e w1 ⟨v0, rfl, hR, hb1⟩; obtain ⟨A1, c1, rfl⟩ := Kd.R_slice hR; obtain ⟨ad, rfl, y0, y1⟩ := two_at (Kd.R_reads' hR).2.2 rfl (by omega); have u2 := cell_after hb1 u0) | (go_at_call 136; refine (strconv_Atoi.calls _ _ _ _ ha.out).mono ?_; rintro e w2 ⟨rfl, hb2⟩; have u3 := cell_after hb2 u2; rw [errW_none]) | (go_at_call 50; refine (gronx_zzIndex.calls k _ _ _ _ hi.out).mono ?_; rintro e wz ⟨rfl, ⟨nd, rfl⟩⟩))
  go_ret2
  exact ⟨by first | rfl | simp, below_step (by repeat (first | exact hb1 | apply pw_below_drewN)) hb2 |> fun h => by repeat (first | exact h | apply pw_below_drewN)⟩
set_option maxRecDepth 100000 in
set_option maxHeartbeats 800000 in
theorem rstep_plain (val step a b : Int) (s : ByteArray) (t : List Int) (k : Nat) (P Q : List ByteArray) (i1 i2 : Int) (hs : gronx_zzSplit.f k s ⟨#[47]⟩ = some P) (hP : P.length = 2) (ha : strconv_Atoi.f (rdOf ByteArray.empty P 1) = some (step, none)) (s0 : 1 ≤ step) (hi : gronx_zzIndex.f k s ⟨#[42, 47]⟩ = some i1) (h1 : i1 ≠ 0) (hj : gronx_zzIndex.f k s ⟨#[48, 47]⟩ = some i2) (h2 : i2 ≠ 0) (hs2 : gronx_zzSplit.f k (rdOf ByteArray.empty P 0) ⟨#[45]⟩ = some Q) (hQ : Q.length = 2) (ha0 : strconv_Atoi.f (rdOf ByteArray.empty Q 0) = some (a, none)) (ha1 : strconv_Atoi.f (rdOf ByteArray.empty Q 1) = some (b, none)) (ht : t.length = 2) (hab : a ≤ b) (hlo : rd t 0 ≤ a) (hhi : b ≤ rd t 1) (r : Bool) (hr : gronx_inStepRange.f k val a b step = some r) : InC 134 val s t false r := by
  intro A cc w hC hcc
  have hs := Aside0.mk hs
  have ha := Aside0.mk ha
  have hi := Aside0.mk hi
  have hj := Aside0.mk hj
  have hs2 := Aside0.mk hs2
  have ha0 := Aside0.mk ha0
  have ha1 := Aside0.mk ha1
  have hr := Aside0.mk hr
  obtain ⟨ab, rfl, u0, u1⟩ := two_int hC rfl (by omega)
  have qi0 : (0 < t.length) = True := eq_true (by omega)
  have qi1 : (0 < (t.length : Int)) = True := eq_true (by omega)
  have qi2 : (1 < t.length) = True := eq_true (by omega)
  have qi3 : (1 < (t.length : Int)) = True := eq_true (by omega)
  have qp0 : (1 < P.length) = True := eq_true (by omega)
  have qp1 : (1 < (P.length : Int)) = True := eq_true (by omega)
  have qp2 : (0 < P.length) = True := eq_true (by omega)
  have qp3 : (0 < (P.length : Int)) = True := eq_true (by omega)
  have qq0 : (1 < Q.length) = True := eq_true (by omega)
  have qq1 : (1 < (Q.length : Int)) = True := eq_true (by omega)
  have qq2 : (0 < Q.length) = True := eq_true (by omega)
  have qq3 : (0 < (Q.length : Int)) = True := eq_true (by omega)
  have n0 : ¬ step ≤ 0 := by omega
  have n1 : (i1 == 0) = false := beq_eq_false_iff_ne.mpr h1
  have n2 : (i2 == 0) = false := beq_eq_false_iff_ne.mpr h2
  generalize rd t 0 = lo at *
  generalize rd t 1 = hi' at *
  have n3 : ¬ b < a := by omega
  have n4 : ¬ a < lo := by omega
  have n5 : ¬ hi' < b := by omega
  go_enter Tryz.func134, Tryz.ntmps134
  go_wp2_with (first | (go_at_call 62; refine (gronx_zzSplit.calls k _ _ _ _ hs.out).mono ?_; rintro e w1 ⟨v0, rfl, hR, hb1⟩; obtain ⟨A1, c1, rfl⟩ := Kd.R_slice hR; obtain ⟨ad, rfl, y0, y1⟩ := two_at (Kd.R_reads' hR).2.2 rfl (by omega); have u2 := cell_after hb1 u0; have u3 := cell_after hb1 u1; clear hs) | (go_at_call 136; refine (strconv_Atoi.calls _ _ _ _ ha.out).mono ?_; rintro e w2 ⟨rfl, hb2⟩; have u4 := cell_after hb2 u2; have u5 := cell_after hb2 u3; have y2 := cell_after hb2 y0; rw [errW_none]; clear ha) | (go_at_call 50; refine (gronx_zzIndex.calls k _ _ _ _ hi.out).mono ?_; rintro e wz ⟨rfl, ⟨nd, rfl⟩⟩; clear hi) | (go_at_call 50; refine (gronx_zzIndex.calls k _ _ _ _ hj.out).mono ?_; rintro e wz ⟨rfl, ⟨nd2, rfl⟩⟩; clear hj) | (go_at_call 62; refine (gronx_zzSplit.calls k _ _ _ _ hs2.out).mono ?_; rintro e w3 ⟨v2, rfl, hR2, hb3⟩; obtain ⟨A2, c2, rfl⟩ := Kd.R_slice hR2; obtain ⟨ae, rfl, z0, z1⟩ := two_at (Kd.R_reads' hR2).2.2 rfl (by omega); have hb3' : Below w2.heap.size w2 w3 := below_step (by repeat (first | exact Below.refl _ _ | apply pw_below_drewN)) hb3; have u6 := cell_after hb3' u4; have u7 := cell_after hb3' u5; clear hs2) | (go_at_call 136; refine (strconv_Atoi.calls _ _ _ _ ha0.out).mono ?_; rintro e w4 ⟨rfl, hb4⟩; have u8 := cell_after hb4 u6; have u9 := cell_after hb4 u7; have z2 := cell_after hb4 z1; rw [errW_none]; clear ha0) | (go_at_call 136; refine (strconv_Atoi.calls _ _ _ _ ha1.out).mono ?_; rintro e w5 ⟨rfl, hb5⟩; have v8 := cell_after hb5 u8; have v9 := cell_after hb5 u9; rw [errW_none]; clear ha1) | (go_at_call 147; refine (gronx_inStepRange.calls k _ _ _ _ _ _ hr.out).mono ?_; rintro e wr ⟨rfl, ⟨nd3, rfl⟩⟩; clear hr))
  go_ret2
  exact ⟨by first | rfl | simp, by repeat (first | exact below_step (below_step (below_step (below_step hb1 hb2) hb3') hb4) hb5 | apply pw_below_drewN)⟩
set_option maxRecDepth 100000 in
set_option maxHeartbeats 800000 in
theorem rstep_wd (val step a b : Int) (s : ByteArray) (t : List Int) (k : Nat) (P Q : List ByteArray) (i1 i2 : Int) (hs : gronx_zzSplit.f k s ⟨#[47]⟩ = some P) (hP : P.length = 2) (ha : strconv_Atoi.f (rdOf ByteArray.empty P 1) = some (step, none)) (s0 : 1 ≤ step) (hi : gronx_zzIndex.f k s ⟨#[42, 47]⟩ = some i1) (h1 : i1 ≠ 0) (hj : gronx_zzIndex.f k s ⟨#[48, 47]⟩ = some i2) (h2 : i2 ≠ 0) (hs2 : gronx_zzSplit.f k (rdOf ByteArray.empty P 0) ⟨#[45]⟩ = some Q) (hQ : Q.length = 2) (ha0 : strconv_Atoi.f (rdOf ByteArray.empty Q 0) = some (a, none)) (ha1 : strconv_Atoi.f (rdOf ByteArray.empty Q 1) = some (b, none)) (ht : t.length = 2) (hab : a ≤ b) (hlo : rd t 0 ≤ a) (hhi : b ≤ rd t 1) (a6 : a ≤ 6) (hv : val ≠ 0) (r : Bool) (hr : gronx_inStepRange.f k val a b step = some r) : InC 134 val s t true r := by
  intro A cc w hC hcc
  have hs := Aside0.mk hs
  have ha := Aside0.mk ha
  have hi := Aside0.mk hi
  have hj := Aside0.mk hj
  have hs2 := Aside0.mk hs2
  have ha0 := Aside0.mk ha0
  have ha1 := Aside0.mk ha1
  have hr := Aside0.mk hr
  obtain ⟨ab, rfl, u0, u1⟩ := two_int hC rfl (by omega)
  have qi0 : (0 < t.length) = True := eq_true (by omega)
  have qi1 : (0 < (t.length : Int)) = True := eq_true (by omega)
  have qi2 : (1 < t.length) = True := eq_true (by omega)
  have qi3 : (1 < (t.length : Int)) = True := eq_true (by omega)
  have qp0 : (1 < P.length) = True := eq_true (by omega)
  have qp1 : (1 < (P.length : Int)) = True := eq_true (by omega)
  have qp2 : (0 < P.length) = True := eq_true (by omega)
  have qp3 : (0 < (P.length : Int)) = True := eq_true (by omega)
  have qq0 : (1 < Q.length) = True := eq_true (by omega)
  have qq1 : (1 < (Q.length : Int)) = True := eq_true (by omega)
  have qq2 : (0 < Q.length) = True := eq_true (by omega)
  have qq3 : (0 < (Q.length : Int)) = True := eq_true (by omega)
  have n0 : ¬ step ≤ 0 := by omega
  have n1 : (i1 == 0) = false := beq_eq_false_iff_ne.mpr h1
  have n2 : (i2 == 0) = false := beq_eq_false_iff_ne.mpr h2
  generalize rd t 0 = lo at *
  generalize rd t 1 = hi' at *
  have n3 : ¬ b < a := by omega
  have n4 : ¬ a < lo := by omega
  have n5 : ¬ hi' < b := by omega
  have n6 : (a == 7) = false := beq_eq_false_iff_ne.mpr (by omega)
  have n7 : (val == 0) = false := beq_eq_false_iff_ne.mpr hv
  go_enter Tryz.func134, Tryz.ntmps134
  go_wp2_with (first | (go_at_call 62; refine (gronx_zzSplit.calls k _ _ _ _ hs.out).mono ?_; rintro e w1 ⟨v0, rfl, hR, hb1⟩; obtain ⟨A1, c1, rfl⟩ := Kd.R_slice hR; obtain ⟨ad, rfl, y0, y1⟩ := two_at (Kd.R_reads' hR).2.2 rfl (by omega); have u2 := cell_after hb1 u0; have u3 := cell_after hb1 u1; clear hs) | (go_at_call 136; refine (strconv_Atoi.calls _ _ _ _ ha.out).mono ?_; rintro e w2 ⟨rfl, hb2⟩; have u4 := cell_after hb2 u2; have u5 := cell_after hb2 u3; have y2 := cell_after hb2 y0; rw [errW_none]; clear ha) | (go_at_call 50; refine (gronx_zzIndex.calls k _ _ _ _ hi.out).mono ?_; rintro e wz ⟨rfl, ⟨nd, rfl⟩⟩; clear hi) | (go_at_call 50; refine (gronx_zzIndex.calls k _ _ _ _ hj.out).mono ?_; rintro e wz ⟨rfl, ⟨nd2, rfl⟩⟩; clear hj) | (go_at_call 62; refine (gronx_zzSplit.calls k _ _ _ _ hs2.out).mono ?_; rintro e w3 ⟨v2, rfl, hR2, hb3⟩; obtain ⟨A2, c2, rfl⟩ := Kd.R_slice hR2; obtain ⟨ae, rfl, z0, z1⟩ := two_at (Kd.R_reads' hR2).2.2 rfl (by omega); have hb3' : Below w2.heap.size w2 w3 := below_step (by repeat (first | exact Below.refl _ _ | apply pw_below_drewN)) hb3; have u6 := cell_after hb3' u4; have u7 := cell_after hb3' u5; clear hs2) | (go_at_call 136; refine (strconv_Atoi.calls _ _ _ _ ha0.out).mono ?_; rintro e w4 ⟨rfl, hb4⟩; have u8 := cell_after hb4 u6; have u9 := cell_after hb4 u7; have z2 := cell_after hb4 z1; rw [errW_none]; clear ha0) | (go_at_call 136; refine (strconv_Atoi.calls _ _ _ _ ha1.out).mono ?_; rintro e w5 ⟨rfl, hb5⟩; have v8 := cell_after hb5 u8; have v9 := cell_after hb5 u9; rw [errW_none]; clear ha1) | (go_at_call 147; refine (gronx_inStepRange.calls k _ _ _ _ _ _ hr.out).mono ?_; rintro e wr ⟨rfl, ⟨nd3, rfl⟩⟩; clear hr))
  go_ret2
  exact ⟨by first | rfl | simp, by repeat (first | exact below_step (below_step (below_step (below_step hb1 hb2) hb3') hb4) hb5 | apply pw_below_drewN)⟩
set_option maxRecDepth 100000 in
set_option maxHeartbeats 800000 in
theorem rstep_zero_yes (step a b : Int) (s : ByteArray) (t : List Int) (k : Nat) (P Q : List ByteArray) (i1 i2 : Int) (hs : gronx_zzSplit.f k s ⟨#[47]⟩ = some P) (hP : P.length = 2) (ha : strconv_Atoi.f (rdOf ByteArray.empty P 1) = some (step, none)) (s0 : 1 ≤ step) (hi : gronx_zzIndex.f k s ⟨#[42, 47]⟩ = some i1) (h1 : i1 ≠ 0) (hj : gronx_zzIndex.f k s ⟨#[48, 47]⟩ = some i2) (h2 : i2 ≠ 0) (hs2 : gronx_zzSplit.f k (rdOf ByteArray.empty P 0) ⟨#[45]⟩ = some Q) (hQ : Q.length = 2) (ha0 : strconv_Atoi.f (rdOf ByteArray.empty Q 0) = some (a, none)) (ha1 : strconv_Atoi.f (rdOf ByteArray.empty Q 1) = some (b, none)) (ht : t.length = 2) (hab : a ≤ b) (hlo : rd t 0 ≤ a) (hhi : b ≤ rd t 1) (a6 : a ≤ 6) (hr : gronx_inStepRange.f k 0 a b step = some true) : InC 134 0 s t true true := by
  intro A cc w hC hcc
  have hs := Aside0.mk hs
  have ha := Aside0.mk ha
  have hi := Aside0.mk hi
  have hj := Aside0.mk hj
  have hs2 := Aside0.mk hs2
  have ha0 := Aside0.mk ha0
  have ha1 := Aside0.mk ha1
  have hr := Aside0.mk hr
  obtain ⟨ab, rfl, u0, u1⟩ := two_int hC rfl (by omega)
  have qi0 : (0 < t.length) = True := eq_true (by omega)
  have qi1 : (0 < (t.length : Int)) = True := eq_true (by omega)
  have qi2 : (1 < t.length) = True := eq_true (by omega)
  have qi3 : (1 < (t.length : Int)) = True := eq_true (by omega)
  have qp0 : (1 < P.length) = True := eq_true (by omega)
  have qp1 : (1 < (P.length : Int)) = True := eq_true (by omega)
  have qp2 : (0 < P.length) = True := eq_true (by omega)
  have qp3 : (0 < (P.length : Int)) = True := eq_true (by omega)
  have qq0 : (1 < Q.length) = True := eq_true (by omega)
  have qq1 : (1 < (Q.length : Int)) = True := eq_true (by omega)
  have qq2 : (0 < Q.length) = True := eq_true (by omega)
  have qq3 : (0 < (Q.length : Int)) = True := eq_true (by omega)
  have n0 : ¬ step ≤ 0 := by omega
  have n1 : (i1 == 0) = false := beq_eq_false_iff_ne.mpr h1
  have n2 : (i2 == 0) = false := beq_eq_false_iff_ne.mpr h2
  generalize rd t 0 = lo at *
  generalize rd t 1 = hi' at *
  have n3 : ¬ b < a := by omega
  have n4 : ¬ a < lo := by omega
  have n5 : ¬ hi' < b := by omega
  have n6 : (a == 7) = false := beq_eq_false_iff_ne.mpr (by omega)
  go_enter Tryz.func134, Tryz.ntmps134
  go_wp2_with (first | (go_at_call 62; refine (gronx_zzSplit.calls k _ _ _ _ hs.out).mono ?_; rintro e w1 ⟨v0, rfl, hR, hb1⟩; obtain ⟨A1, c1, rfl⟩ := Kd.R_slice hR; obtain ⟨ad, rfl, y0, y1⟩ := two_at (Kd.R_reads' hR).2.2 rfl (by omega); have u2 := cell_after hb1 u0; have u3 := cell_after hb1 u1; clear hs) | (go_at_call 136; refine (strconv_Atoi.calls _ _ _ _ ha.out).mono ?_; rintro e w2 ⟨rfl, hb2⟩; have u4 := cell_after hb2 u2; have u5 := cell_after hb2 u3; have y2 := cell_after hb2 y0; rw [errW_none]; clear ha) | (go_at_call 50; refine (gronx_zzIndex.calls k _ _ _ _ hi.out).mono ?_; rintro e wz ⟨rfl, ⟨nd, rfl⟩⟩; clear hi) | (go_at_call 50; refine (gronx_zzIndex.calls k _ _ _ _ hj.out).mono ?_; rintro e wz ⟨rfl, ⟨nd2, rfl⟩⟩; clear hj) | (go_at_call 62; refine (gronx_zzSplit.calls k _ _ _ _ hs2.out).mono ?_; rintro e w3 ⟨v2, rfl, hR2, hb3⟩; obtain ⟨A2, c2, rfl⟩ := Kd.R_slice hR2; obtain ⟨ae, rfl, z0, z1⟩ := two_at (Kd.R_reads' hR2).2.2 rfl (by omega); have hb3' : Below w2.heap.size w2 w3 := below_step (by repeat (first | exact Below.refl _ _ | apply pw_below_drewN)) hb3; have u6 := cell_after hb3' u4; have u7 := cell_after hb3' u5; clear hs2) | (go_at_call 136; refine (strconv_Atoi.calls _ _ _ _ ha0.out).mono ?_; rintro e w4 ⟨rfl, hb4⟩; have u8 := cell_after hb4 u6; have u9 := cell_after hb4 u7; have z2 := cell_after hb4 z1; rw [errW_none]; clear ha0) | (go_at_call 136; refine (strconv_Atoi.calls _ _ _ _ ha1.out).mono ?_; rintro e w5 ⟨rfl, hb5⟩; have v8 := cell_after hb5 u8; have v9 := cell_after hb5 u9; rw [errW_none]; clear ha1) | (go_at_call 147; refine (gronx_inStepRange.calls k _ _ _ _ _ _ hr.out).mono ?_; rintro e wr ⟨rfl, ⟨nd3, rfl⟩⟩; clear hr))
  go_ret2
  exact ⟨by first | rfl | simp, by repeat (first | exact below_step (below_step (below_step (below_step hb1 hb2) hb3') hb4) hb5 | apply pw_below_drewN)⟩
set_option maxRecDepth 100000 in
set_option maxHeartbeats 800000 in
theorem rstep_zero_no (step a b : Int) (s : ByteArray) (t : List Int) (k : Nat) (P Q : List ByteArray) (i1 i2 : Int) (hs : gronx_zzSplit.f k s ⟨#[47]⟩ = some P) (hP : P.length = 2) (ha : strconv_Atoi.f (rdOf ByteArray.empty P 1) = some (step, none)) (s0 : 1 ≤ step) (hi : gronx_zzIndex.f k s ⟨#[42, 47]⟩ = some i1) (h1 : i1 ≠ 0) (hj : gronx_zzIndex.f k s ⟨#[48, 47]⟩ = some i2) (h2 : i2 ≠ 0) (hs2 : gronx_zzSplit.f k (rdOf ByteArray.empty P 0) ⟨#[45]⟩ = some Q) (hQ : Q.length = 2) (ha0 : strconv_Atoi.f (rdOf ByteArray.empty Q 0) = some (a, none)) (ha1 : strconv_Atoi.f (rdOf ByteArray.empty Q 1) = some (b, none)) (ht : t.length = 2) (hab : a ≤ b) (hlo : rd t 0 ≤ a) (hhi : b ≤ rd t 1) (a6 : a ≤ 6) (r : Bool) (hr : gronx_inStepRange.f k 0 a b step = some false) (hr7 : gronx_inStepRange.f k 7 a b step = some r) : InC 134 0 s t true r := by
  intro A cc w hC hcc
  have hs := Aside0.mk hs
  have ha := Aside0.mk ha
  have hi := Aside0.mk hi
  have hj := Aside0.mk hj
  have hs2 := Aside0.mk hs2
  have ha0 := Aside0.mk ha0
  have ha1 := Aside0.mk ha1
  have hr := Aside0.mk hr
  have hr7 := Aside0.mk hr7
  obtain ⟨ab, rfl, u0, u1⟩ := two_int hC rfl (by omega)
  have qi0 : (0 < t.length) = True := eq_true (by omega)
  have qi1 : (0 < (t.length : Int)) = True := eq_true (by omega)
  have qi2 : (1 < t.length) = True := eq_true (by omega)
  have qi3 : (1 < (t.length : Int)) = True := eq_true (by omega)
  have qp0 : (1 < P.length) = True := eq_true (by omega)
  have qp1 : (1 < (P.length : Int)) = True := eq_true (by omega)
  have qp2 : (0 < P.length) = True := eq_true (by omega)
  have qp3 : (0 < (P.length : Int)) = True := eq_true (by omega)
  have qq0 : (1 < Q.length) = True := eq_true (by omega)
  have qq1 : (1 < (Q.length : Int)) = True := eq_true (by omega)
  have qq2 : (0 < Q.length) = True := eq_true (by omega)
  have qq3 : (0 < (Q.length : Int)) = True := eq_true (by omega)
  have n0 : ¬ step ≤ 0 := by omega
  have n1 : (i1 == 0) = false := beq_eq_false_iff_ne.mpr h1
  have n2 : (i2 == 0) = false := beq_eq_false_iff_ne.mpr h2
  generalize rd t 0 = lo at *
  generalize rd t 1 = hi' at *
  have n3 : ¬ b < a := by omega
  have n4 : ¬ a < lo := by omega
  have n5 : ¬ hi' < b := by omega
  have n6 : (a == 7) = false := beq_eq_false_iff_ne.mpr (by omega)
  go_enter Tryz.func134, Tryz.ntmps134
  go_wp2_with (first | (go_at_call 62; refine (gronx_zzSplit.calls k _ _ _ _ hs.out).mono ?_; rintro e w1 ⟨v0, rfl, hR, hb1⟩; obtain ⟨A1, c1, rfl⟩ := Kd.R_slice hR; obtain ⟨ad, rfl, y0, y1⟩ := two_at (Kd.R_reads' hR).2.2 rfl (by omega); have u2 := cell_after hb1 u0; have u3 := cell_after hb1 u1; clear hs) | (go_at_call 136; refine (strconv_Atoi.calls _ _ _ _ ha.out).mono ?_; rintro e w2 ⟨rfl, hb2⟩; have u4 := cell_after hb2 u2; have u5 := cell_after hb2 u3; have y2 := cell_after hb2 y0; rw [errW_none]; clear ha) | (go_at_call 50; refine (gronx_zzIndex.calls k _ _ _ _ hi.out).mono ?_; rintro e wz ⟨rfl, ⟨nd, rfl⟩⟩; clear hi) | (go_at_call 50; refine (gronx_zzIndex.calls k _ _ _ _ hj.out).mono ?_; rintro e wz ⟨rfl, ⟨nd2, rfl⟩⟩; clear hj) | (go_at_call 62; refine (gronx_zzSplit.calls k _ _ _ _ hs2.out).mono ?_; rintro e w3 ⟨v2, rfl, hR2, hb3⟩; obtain ⟨A2, c2, rfl⟩ := Kd.R_slice hR2; obtain ⟨ae, rfl, z0, z1⟩ := two_at (Kd.R_reads' hR2).2.2 rfl (by omega); have hb3' : Below w2.heap.size w2 w3 := below_step (by repeat (first | exact Below.refl _ _ | apply pw_below_drewN)) hb3; have u6 := cell_after hb3' u4; have u7 := cell_after hb3' u5; clear hs2) | (go_at_call 136; refine (strconv_Atoi.calls _ _ _ _ ha0.out).mono ?_; rintro e w4 ⟨rfl, hb4⟩; have u8 := cell_after hb4 u6; have u9 := cell_after hb4 u7; have z2 := cell_after hb4 z1; rw [errW_none]; clear ha0) | (go_at_call 136; refine (strconv_Atoi.calls _ _ _ _ ha1.out).mono ?_; rintro e w5 ⟨rfl, hb5⟩; have v8 := cell_after hb5 u8; have v9 := cell_after hb5 u9; rw [errW_none]; clear ha1) | (go_at_call 147; refine (gronx_inStepRange.calls k _ _ _ _ _ _ hr.out).mono ?_; rintro e wr ⟨rfl, ⟨nd3, rfl⟩⟩; clear hr) | (go_at_call 147; refine (gronx_inStepRange.calls k _ _ _ _ _ _ hr7.out).mono ?_; rintro e wr ⟨rfl, ⟨nd4, rfl⟩⟩; clear hr7))
  go_ret2
  exact ⟨by first | rfl | simp, by repeat (first | exact below_step (below_step (below_step (below_step hb1 hb2) hb3') hb4) hb5 | apply pw_below_drewN)⟩
end Go.Proofs.YtemgofomhjabpaaGreatDoor.Core
namespace Go.Proofs.YtemgofomhjabpaaGreatDoor.Core
open Go.RowKit Go.Proofs.YtemgofomhjabpaaGreatDoorW.PrintWords
structure Moment' (x y mo d h mi s : Int) : Prop where
  date : DateOk y mo d
  clock : ClockOk h mi s
  ext : x = extOf y mo d h mi s
def posV (y mo d h mi s : Int) (pos : Int) : Int := if pos = 0 then s else if pos = 1 then mi else if pos = 2 then h else if pos = 3 then d else if pos = 4 then mo else if pos = 5 then wdI y mo d else y
section
variable {x y mo d h mi s : Int} (M : Moment' x y mo d h mi s)
include M
theorem Moment'.r0 : 62700000000 ≤ x := M.ext ▸ (ext_range M.date M.clock).1
theorem Moment'.r1 : x ≤ 66100000000 := M.ext ▸ (ext_range M.date M.clock).2
theorem Moment'.abs : x + 9223371966606163200 = absD y mo d * 86400 + (h * 3600 + mi * 60 + s) := by rw [M.ext]; unfold extOf; omega
theorem Moment'.days : gotime_absSeconds_days.f (x + 9223371966606163200) = some (absD y mo d) := M.ext ▸ days_ext M.date M.clock
theorem sec_m (w : World) : Calls Tryz.prog 128 #[.agg #[.int .u64 0, .int .i64 x, .pointer none]] w fun e w' => e = .returned (.int .i64 s) ∧ Below w.heap.size w w' := by
  have e : (x + 9223371966606163200) % 60 = s := by rw [M.abs]; have := M.clock.s0; have := M.clock.s1; omega
  have := second_w x w M.r0 M.r1
  rwa [e] at this
theorem min_m (w : World) : Calls Tryz.prog 129 #[.agg #[.int .u64 0, .int .i64 x, .pointer none]] w fun e w' => e = .returned (.int .i64 mi) ∧ Below w.heap.size w w' := by
  have e : (x + 9223371966606163200) % 3600 / 60 = mi := by rw [M.abs]; have := M.clock.s0; have := M.clock.s1; have := M.clock.m0; have := M.clock.m1; omega
  have := minute_w x w M.r0 M.r1
  rwa [e] at this
theorem hour_m (w : World) : Calls Tryz.prog 130 #[.agg #[.int .u64 0, .int .i64 x, .pointer none]] w fun e w' => e = .returned (.int .i64 h) ∧ Below w.heap.size w w' := by
  have e : (x + 9223371966606163200) % 86400 / 3600 = h := by rw [M.abs]; have := M.clock.s0; have := M.clock.s1; have := M.clock.m0; have := M.clock.m1; have := M.clock.h0; have := M.clock.h1; omega
  have := hour_w x w M.r0 M.r1
  rwa [e] at this
theorem day_m (w : World) : Calls Tryz.prog 109 #[.agg #[.int .u64 0, .int .i64 x, .pointer none]] w fun e w' => e = .returned (.int .i64 d) ∧ Below w.heap.size w w' :=
  day_w x _ _ _ _ _ d w M.r0 M.r1 ⟨M.days⟩ ⟨split_date M.date⟩ ⟨(aydSplit M.date).1⟩
theorem month_m (w : World) : Calls Tryz.prog 119 #[.agg #[.int .u64 0, .int .i64 x, .pointer none]] w fun e w' => e = .returned (.int .i64 mo) ∧ Below w.heap.size w w' :=
  month_w x _ _ _ _ _ _ mo d w M.r0 M.r1 ⟨M.days⟩ ⟨split_date M.date⟩ ⟨(aydSplit M.date).1⟩ ⟨(aydSplit M.date).2.1⟩ ⟨(aydSplit M.date).2.2⟩
theorem year_m (w : World) : Calls Tryz.prog 118 #[.agg #[.int .u64 0, .int .i64 x, .pointer none]] w fun e w' => e = .returned (.int .i64 y) ∧ Below w.heap.size w w' :=
  year_w x _ _ _ _ _ y w M.r0 M.r1 ⟨M.days⟩ ⟨split_date M.date⟩ ⟨(aydSplit M.date).2.1⟩ ⟨centuryYear M.date⟩
theorem weekday_m (w : World) : Calls Tryz.prog 131 #[.agg #[.int .u64 0, .int .i64 x, .pointer none]] w fun e w' => e = .returned (.int .i64 (wdI y mo d)) ∧ Below w.heap.size w w' :=
  weekday_w x _ _ w M.r0 M.r1 ⟨M.days⟩ ⟨weekday_date M.date⟩
end
set_option maxRecDepth 100000 in
theorem val_w {x y mo d h mi s : Int} (M : Moment' x y mo d h mi s) (pos : Nat) (hp : pos < 7) (w : World) :
    Calls Tryz.prog 114 #[.agg #[.int .u64 0, .int .i64 x, .pointer none], .int .i64 (pos : Int)] w fun e w' => e = .returned (.int .i64 (posV y mo d h mi s pos)) ∧ Below w.heap.size w w' := by
  have M := Aside0.mk M
  match pos, hp with
  | 0, _ =>
    go_enter Tryz.func114, Tryz.ntmps114
    go_wp2_with (go_at_call 128; refine (sec_m M.out _).mono ?_; rintro e w1 ⟨rfl, hb⟩)
    go_ret
    exact ⟨rfl, below_then (below_alloc (Below.refl _ _) _) (by simp) hb⟩
  | 1, _ =>
    go_enter Tryz.func114, Tryz.ntmps114
    go_wp2_with (go_at_call 129; refine (min_m M.out _).mono ?_; rintro e w1 ⟨rfl, hb⟩)
    go_ret
    exact ⟨rfl, below_then (below_alloc (Below.refl _ _) _) (by simp) hb⟩
  | 2, _ =>
    go_enter Tryz.func114, Tryz.ntmps114
    go_wp2_with (go_at_call 130; refine (hour_m M.out _).mono ?_; rintro e w1 ⟨rfl, hb⟩)
    go_ret
    exact ⟨rfl, below_then (below_alloc (Below.refl _ _) _) (by simp) hb⟩
  | 3, _ =>
    go_enter Tryz.func114, Tryz.ntmps114
    go_wp2_with (go_at_call 109; refine (day_m M.out _).mono ?_; rintro e w1 ⟨rfl, hb⟩)
    go_ret
    exact ⟨rfl, below_then (below_alloc (Below.refl _ _) _) (by simp) hb⟩
  | 4, _ =>
    go_enter Tryz.func114, Tryz.ntmps114
    go_wp2_with (go_at_call 119; refine (month_m M.out _).mono ?_; rintro e w1 ⟨rfl, hb⟩)
    go_ret
    exact ⟨rfl, below_then (below_alloc (Below.refl _ _) _) (by simp) hb⟩
  | 5, _ =>
    go_enter Tryz.func114, Tryz.ntmps114
    go_wp2_with (go_at_call 131; refine (weekday_m M.out _).mono ?_; rintro e w1 ⟨rfl, hb⟩)
    go_ret
    exact ⟨rfl, below_then (below_alloc (Below.refl _ _) _) (by simp) hb⟩
  | 6, _ =>
    go_enter Tryz.func114, Tryz.ntmps114
    go_wp2_with (go_at_call 118; refine (year_m M.out _).mono ?_; rintro e w1 ⟨rfl, hb⟩)
    go_ret
    exact ⟨rfl, below_then (below_alloc (Below.refl _ _) _) (by simp) hb⟩
theorem getRef_w (c : Nat) (x : Int) (w : World) (h0 : w.cell? ⟨c, 0, none⟩ = some (.int .u64 0)) (h1 : w.cell? ⟨c, 1, none⟩ = some (.int .i64 x)) (h2 : w.cell? ⟨c, 2, none⟩ = some (.pointer none)) :
    Calls Tryz.prog 112 #[.pointer (some ⟨c, 0, none⟩)] w fun e w' => e = .returned (.agg #[.int .u64 0, .int .i64 x, .pointer none]) ∧ Below w.heap.size w w' := by
  have hc : c < w.heap.size := World.block_lt_of_cell? w ⟨c, 0, none⟩ h0
  have hne : c ≠ w.heap.size := Nat.ne_of_lt hc
  have hne' : w.heap.size ≠ c := Nat.ne_of_gt hc
  go_enter Tryz.func112, Tryz.ntmps112
  go_wp2
  exact bodyPost_ret (v := .agg #[.int .u64 0, .int .i64 x, .pointer none]) (by simp [results, Tryz.results112, go_sem]) rfl ⟨rfl, (Below.refl _ _).alloc (Nat.le_refl _) _⟩
def SI (n : Nat) (y mo d h mi s : Int) (w' : World) : Prop := n + 1 < w'.heap.size ∧ w'.cell? ⟨n, 0, none⟩ = some (.int .i64 y) ∧ w'.cell? ⟨n, 1, none⟩ = some (.int .i64 mo) ∧ w'.cell? ⟨n, 2, none⟩ = some (.int .i64 d) ∧ w'.cell? ⟨n, 3, none⟩ = some (.int .i64 h) ∧ w'.cell? ⟨n, 4, none⟩ = some (.int .i64 mi) ∧ w'.cell? ⟨n, 5, none⟩ = some (.int .i64 s) ∧ w'.frozen? ⟨n + 1, 0, none⟩ = false ∧ w'.frozen? ⟨n + 1, 1, none⟩ = false ∧ w'.frozen? ⟨n + 1, 2, none⟩ = false ∧ (∃ v, w'.cell? ⟨n + 1, 0, none⟩ = some v) ∧ (∃ v, w'.cell? ⟨n + 1, 1, none⟩ = some v) ∧ (∃ v, w'.cell? ⟨n + 1, 2, none⟩ = some v)
theorem SI.below {n : Nat} {y mo d h mi s : Int} {a b : World} (hb : Below a.heap.size a b) (hS : SI n y mo d h mi s a) : SI n y mo d h mi s b := by
  obtain ⟨h0, h1, h2, h3, h4, h5, h6, h7, h8, h9, ⟨v0, k0⟩, ⟨v1, k1⟩, ⟨v2, k2⟩⟩ := hS
  exact ⟨Nat.lt_of_lt_of_le h0 hb.size, cell_after hb h1, cell_after hb h2, cell_after hb h3, cell_after hb h4, cell_after hb h5, cell_after hb h6, (hb.frozen h0).trans h7, (hb.frozen h0).trans h8, (hb.frozen h0).trans h9, ⟨v0, cell_after hb k0⟩, ⟨v1, cell_after hb k1⟩, ⟨v2, cell_after hb k2⟩⟩
theorem SI.cells {n : Nat} {y mo d h mi s : Int} {a : World} (hS : SI n y mo d h mi s a) : ∃ v0 v1 v2, a.cell? ⟨n + 1, 0, none⟩ = some v0 ∧ a.cell? ⟨n + 1, 1, none⟩ = some v1 ∧ a.cell? ⟨n + 1, 2, none⟩ = some v2 ∧ a.frozen? ⟨n + 1, 0, none⟩ = false ∧ a.frozen? ⟨n + 1, 1, none⟩ = false ∧ a.frozen? ⟨n + 1, 2, none⟩ = false := by
  obtain ⟨h0, h1, h2, h3, h4, h5, h6, h7, h8, h9, ⟨v0, k0⟩, ⟨v1, k1⟩, ⟨v2, k2⟩⟩ := hS
  exact ⟨v0, v1, v2, k0, k1, k2, h7, h8, h9⟩
theorem frozen_set {w : World} {a b : Addr} {v : Value} : (w.setCell a v).frozen? b = w.frozen? b := by simp
theorem set_some {w : World} {a b : Addr} {v u : Value} (h : w.cell? b = some u) : ∃ u', (w.setCell a v).cell? b = some u' := cell?_setCell_some h
theorem SI.set {n j : Nat} {v : Value} {y mo d h mi s : Int} {a : World} (hS : SI n y mo d h mi s a) : SI n y mo d h mi s (a.setCell ⟨n + 1, j, none⟩ v) := by
  obtain ⟨h0, h1, h2, h3, h4, h5, h6, h7, h8, h9, ⟨v0, k0⟩, ⟨v1, k1⟩, ⟨v2, k2⟩⟩ := hS
  exact ⟨by simpa using h0, (set_other (by simp)).trans h1, (set_other (by simp)).trans h2, (set_other (by simp)).trans h3, (set_other (by simp)).trans h4, (set_other (by simp)).trans h5, (set_other (by simp)).trans h6, frozen_set.trans h7, frozen_set.trans h8, frozen_set.trans h9, set_some k0, set_some k1, set_some k2⟩
theorem set3 {w4 : World} {g : Nat} {x0 x1 x2 a b c : Value} (h0 : w4.cell? ⟨g, 0, none⟩ = some x0) (h1 : w4.cell? ⟨g, 1, none⟩ = some x1) (h2 : w4.cell? ⟨g, 2, none⟩ = some x2) :
    (((w4.setCell ⟨g, 0, none⟩ a).setCell ⟨g, 1, none⟩ b).setCell ⟨g, 2, none⟩ c).cell? ⟨g, 0, none⟩ = some a ∧
    (((w4.setCell ⟨g, 0, none⟩ a).setCell ⟨g, 1, none⟩ b).setCell ⟨g, 2, none⟩ c).cell? ⟨g, 1, none⟩ = some b ∧
    (((w4.setCell ⟨g, 0, none⟩ a).setCell ⟨g, 1, none⟩ b).setCell ⟨g, 2, none⟩ c).cell? ⟨g, 2, none⟩ = some c := by
  have k0 : (w4.setCell ⟨g, 0, none⟩ a).cell? ⟨g, 0, none⟩ = some a := set_same h0
  have k1 : ((w4.setCell ⟨g, 0, none⟩ a).setCell ⟨g, 1, none⟩ b).cell? ⟨g, 0, none⟩ = some a := (set_other (by simp)).trans k0
  have k2 : ((w4.setCell ⟨g, 0, none⟩ a).setCell ⟨g, 1, none⟩ b).cell? ⟨g, 1, none⟩ = some b := set_same ((set_other (by simp)).trans h1)
  exact ⟨(set_other (by simp)).trans k1, (set_other (by simp)).trans k2, set_same ((set_other (by simp)).trans ((set_other (by simp)).trans h2))⟩
theorem utc_b (w : World) : Calls Tryz.prog 44 #[] w fun e w' => ∃ b, e = .returned (.pointer (some ⟨b, 0, none⟩)) ∧ w'.cell? ⟨b, 0, none⟩ = some (.bool true) ∧ w'.cell? ⟨b, 2, none⟩ = some (.slice none 0 0) ∧ Below w.heap.size w w' := by
  refine (utc_any w).mono ?_
  rintro e w' ⟨rfl, rfl⟩
  exact ⟨_, rfl, by simp [utcCells, go_sem], by simp [utcCells, go_sem], (Below.refl _ _).alloc (Nat.le_refl _) _⟩
theorem timeOf_w {y mo d h mi s : Int} (hd : DateOk y mo d) (hc : ClockOk h mi s) (w : World) :
    Calls Tryz.prog 33 #[.agg #[.int .i64 y, .int .i64 mo, .int .i64 d, .int .i64 h, .int .i64 mi, .int .i64 s]] w fun e w' => e = .returned (.agg #[.int .u64 0, .int .i64 (extOf y mo d h mi s), .pointer none]) ∧ Below w.heap.size w w' := by
  have hD : Aside0 (gotime_dateToAbsDays.f y mo d = some (absD y mo d)) := ⟨dateToAbs_eq y mo d hd.y0 hd.y1 hd.m0 hd.m1 hd.d0 (by have := hd.d1; have := (daysI_cases y mo hd.m0 hd.m1).1; omega)⟩
  have hr := Aside0.mk (absD_range hd)
  have hd := Aside0.mk hd
  have hc := Aside0.mk hc
  go_enter Tryz.func33, Tryz.ntmps33
  go_wp2
  go_region_held (fun w' => w.heap.size + 1 < w'.heap.size ∧ w'.cell? ⟨w.heap.size, 0, none⟩ = some (.int .i64 y) ∧ w'.cell? ⟨w.heap.size, 1, none⟩ = some (.int .i64 mo) ∧ w'.cell? ⟨w.heap.size, 2, none⟩ = some (.int .i64 d) ∧ w'.cell? ⟨w.heap.size, 3, none⟩ = some (.int .i64 h) ∧ w'.cell? ⟨w.heap.size, 4, none⟩ = some (.int .i64 mi) ∧ w'.cell? ⟨w.heap.size, 5, none⟩ = some (.int .i64 s) ∧ w'.frozen? ⟨w.heap.size + 1, 0, none⟩ = false ∧ w'.frozen? ⟨w.heap.size + 1, 1, none⟩ = false ∧ w'.frozen? ⟨w.heap.size + 1, 2, none⟩ = false ∧ (∃ v, w'.cell? ⟨w.heap.size + 1, 0, none⟩ = some v) ∧ (∃ v, w'.cell? ⟨w.heap.size + 1, 1, none⟩ = some v) ∧ (∃ v, w'.cell? ⟨w.heap.size + 1, 2, none⟩ = some v))
    (first | exact SI.below hb (by assumption) | exact SI.below hb1 (by assumption) | exact SI.set (SI.set (SI.set (by assumption))) | go_keep | (trace_state; fail)) (first | (go_at_call 44; refine (utc_b _).mono ?_; rintro e w1 ⟨b, rfl, hu0, hu2, hb1⟩) | (go_at_call 43; refine (date_w y mo d h mi s (absD y mo d) _ _ hd.out.m0 hd.out.m1 hc.out.h0 hc.out.h1 hc.out.m0 hc.out.m1 hc.out.s0 hc.out.s1 hD hr.out.1 hr.out.2 (by assumption) (by assumption)).mono ?_; rintro e w2 ⟨rfl, hb⟩; obtain ⟨v0, v1, v2, hk0, hk1, hk2, hf0, hf1, hf2⟩ := SI.cells (SI.below hb (by assumption))))
  rename_i hHeld
  clear hHeld
  obtain ⟨r0, r1, r2⟩ := set3 (a := .int .u64 0) (b := .int .i64 (absD y mo d * 86400 + (h * 3600 + mi * 60 + s) + -9223371966606163200)) (c := .pointer none) hk0 hk1 hk2
  go_wp2
  refine bodyPost_ret (v := .agg #[.int .u64 0, .int .i64 (absD y mo d * 86400 + (h * 3600 + mi * 60 + s) + -9223371966606163200), .pointer none]) (by simp [results, Tryz.results33, go_sem, r0, r1, r2]) rfl ⟨ret_time (by unfold extOf; omega), ?_⟩
  have b1 : Below w.heap.size w w1 := Below.trans (by repeat (first | exact Below.refl _ _ | apply below_alloc | apply below_drew1)) (hb1.mono (by simp; omega))
  have b2 : Below w.heap.size w w2 := b1.trans (hb.mono b1.size)
  exact ((b2.setCell (Nat.le_succ _) _).setCell (Nat.le_succ _) _).setCell (Nat.le_succ _) _
end Go.Proofs.YtemgofomhjabpaaGreatDoor.Core
namespace Go.Proofs.YtemgofomhjabpaaGreatDoor.Core
open Go.RowKit Go.Proofs.YtemgofomhjabpaaGreatDoorW.PrintWords Go.Proofs.YtemgofomhjabpaaGreatDoorW.PrintLast Go.Proofs.YtemgofomhjabpaaGreatDoorW.PrintMore
attribute [local go_sem] max2_int min2_int max_two min_two max_three min_three max_four min_four   -- for this text's walks alone
set_option linter.unusedVariables false
set_option linter.unusedSimpArgs false
mutual
def gronx_zzContainsAny.l0 : Nat → ByteArray → ByteArray → Int → Option (Bool)
  | 0, _, _, _ => none
  | k + 1, x0, x1, x5 => if x5 < (x0.size : Int) then (gronx_zzContainsAny.l1 k x0 x1 x5 0) else (some false)
def gronx_zzContainsAny.l1 : Nat → ByteArray → ByteArray → Int → Int → Option (Bool)
  | 0, _, _, _, _ => none
  | k + 1, x0, x1, x5, x6 => if x6 < (x1.size : Int) then (if 0 ≤ x5 then (if x5 < (x0.size : Int) then (if 0 ≤ x6 then (if (bt x0 x5) = (bt x1 x6) then (some true) else (gronx_zzContainsAny.l1 k x0 x1 x5 (wrap64 (x6 + 1)))) else (none)) else (none)) else (none)) else (gronx_zzContainsAny.l0 k x0 x1 (wrap64 (x5 + 1)))
end
def gronx_zzContainsAny.f (k : Nat) (a0 : ByteArray) (a1 : ByteArray) : Option (Bool) := gronx_zzContainsAny.l0 k a0 a1 0
set_option maxHeartbeats 8000000 in
set_option maxRecDepth 100000 in
theorem gronx_zzContainsAny.calls (k : Nat) (a0 : ByteArray) (a1 : ByteArray) (r : Bool) (w : World) (h : gronx_zzContainsAny.f k a0 a1 = some r) :
    Calls Tryz.prog 116 #[.string a0, .string a1] w fun e w' => e = .returned (.bool r) ∧ Drawn0 w w' := by
  have H : (gronx_zzContainsAny.l0 k a0 a1 0) = some r := h
  clear h
  have H' := Aside0.mk H
  clear H
  go_enter Tryz.func116, Tryz.ntmps116
  go_wp2
  repeat (go_quiet (fail); try go_wp2)
  go_loopg [5] k (fun kq v5 w' => ∃ (x5_1 : Int), v5 = .int .i64 x5_1 ∧ Aside0 (gronx_zzContainsAny.l0 kq a0 a1 x5_1 = some r) ∧ Aside0 (kq ≤ k) ∧ Drawn0 w w')
  case atStart => exact ⟨(0), (by first | rfl | (simp; done) | (simp [*]; done)), H', ⟨Nat.le_refl _⟩, by repeat (first | exact Drawn0.refl _ | apply Drawn0.step)⟩
  case round =>
    clear H'
    try clear c1
    try clear p2
    obtain ⟨x5_1, rfl, HA, HK1, ⟨m1, rfl⟩⟩ := hrel
    cases gk with
    | zero => exact absurd HA.out (by simp [gronx_zzContainsAny.l0])
    | succ k1 =>
      have H := HA.out
      clear HA
      simp only [gronx_zzContainsAny.l0] at H
      by_cases c3 : x5_1 < (a0.size : Int)
      · rw [if_pos c3] at H
        have c3b0 : decide (x5_1 < (a0.size : Int)) = true := decide_eq_true c3
        clear c3
        have H' := Aside0.mk H
        clear H
        go_wp2
        repeat (go_quiet (fail); try go_wp2)
        go_loopg [6] k1 (fun kq v6 w' => ∃ (x6_2 : Int), v6 = .int .i64 x6_2 ∧ Aside0 (gronx_zzContainsAny.l1 kq a0 a1 x5_1 x6_2 = some r) ∧ Aside0 (kq ≤ k1) ∧ Drawn0 w w')
        case atStart => exact ⟨(0), (by first | rfl | (simp; done) | (simp [*]; done)), H', ⟨Nat.le_refl _⟩, by repeat (first | exact Drawn0.refl _ | apply Drawn0.step)⟩
        case round =>
          clear H'
          try clear c1
          try clear p2
          try clear c3
          try clear c3b0
          try clear p2
          obtain ⟨x6_2, rfl, HA, HK2, ⟨m2, rfl⟩⟩ := hrel
          cases gk with
          | zero => exact absurd HA.out (by simp [gronx_zzContainsAny.l1])
          | succ k2 =>
            have H := HA.out
            clear HA
            simp only [gronx_zzContainsAny.l1] at H
            by_cases c4 : x6_2 < (a1.size : Int)
            · rw [if_pos c4] at H
              have c4b0 : decide (x6_2 < (a1.size : Int)) = true := decide_eq_true c4
              clear c4
              by_cases c5 : 0 ≤ x5_1
              · rw [if_pos c5] at H
                have c5b0 : decide (0 ≤ x5_1) = true := decide_eq_true c5
                clear c5
                by_cases c6 : x5_1 < (a0.size : Int)
                · rw [if_pos c6] at H
                  have c6b0 : decide (x5_1 < (a0.size : Int)) = true := decide_eq_true c6
                  clear c6
                  by_cases c8 : 0 ≤ x6_2
                  · rw [if_pos c8] at H
                    have c8b0 : decide (0 ≤ x6_2) = true := decide_eq_true c8
                    clear c8
                    by_cases c10 : (bt a0 x5_1) = (bt a1 x6_2)
                    · rw [if_pos c10] at H
                      have c10b0 : ((bt a0 x5_1) == (bt a1 x6_2)) = true := beq_iff_eq.mpr c10
                      have c10b1 : ((bt a0 x5_1) != (bt a1 x6_2)) = false := bne_eq_false_iff_eq.mpr c10
                      clear c10
                      obtain rfl := Option.some.inj H
                      have p7 : 0 ≤ (x5_1 : Int) := of_decide_eq_true (by first | (with_reducible assumption) | assumption)
                      have q7 : x5_1 < (a0.size : Int) := of_decide_eq_true (by first | (with_reducible assumption) | assumption)
                      have hx7 := bt_at a0 x5_1
                      replace p7 := eq_true p7
                      replace q7 := eq_true q7
                      have p9 : 0 ≤ (x6_2 : Int) := of_decide_eq_true (by first | (with_reducible assumption) | assumption)
                      have q9 : x6_2 < (a1.size : Int) := of_decide_eq_true (by first | (with_reducible assumption) | assumption)
                      have hx9 := bt_at a1 x6_2
                      replace p9 := eq_true p9
                      replace q9 := eq_true q9
                      go_wp2
                      repeat (go_quiet (fail); try go_wp2)
                      go_ret
                      exact ⟨by first | rfl | (simp; done) | (simp [*]; done), by repeat (first | exact Drawn0.refl _ | apply Drawn0.step)⟩
                    · rw [if_neg c10] at H
                      have c10b0 : ((bt a0 x5_1) == (bt a1 x6_2)) = false := beq_eq_false_iff_ne.mpr c10
                      have c10b1 : ((bt a0 x5_1) != (bt a1 x6_2)) = true := bne_iff_ne.mpr c10
                      have H' := Aside0.mk H
                      clear H
                      have p7 : 0 ≤ (x5_1 : Int) := of_decide_eq_true (by first | (with_reducible assumption) | assumption)
                      have q7 : x5_1 < (a0.size : Int) := of_decide_eq_true (by first | (with_reducible assumption) | assumption)
                      have hx7 := bt_at a0 x5_1
                      replace p7 := eq_true p7
                      replace q7 := eq_true q7
                      have p9 : 0 ≤ (x6_2 : Int) := of_decide_eq_true (by first | (with_reducible assumption) | assumption)
                      have q9 : x6_2 < (a1.size : Int) := of_decide_eq_true (by first | (with_reducible assumption) | assumption)
                      have hx9 := bt_at a1 x6_2
                      replace p9 := eq_true p9
                      replace q9 := eq_true q9
                      go_wp2
                      repeat (go_quiet (fail); try go_wp2)
                      go_roundg k2
                      case measure => have := HK1.out; have := HK2.out; omega
                      case rel => exact ⟨(wrap64 (x6_2 + 1)), (by first | rfl | (simp; done) | (simp [*]; done)), H', ⟨by have := HK1.out; have := HK2.out; omega⟩, by repeat (first | exact Drawn0.refl _ | apply Drawn0.step)⟩
                  · rw [if_neg c8] at H
                    exact absurd H (by simp)
                · rw [if_neg c6] at H
                  exact absurd H (by simp)
              · rw [if_neg c5] at H
                exact absurd H (by simp)
            · rw [if_neg c4] at H
              have c4b0 : decide (x6_2 < (a1.size : Int)) = false := decide_eq_false c4
              clear c4
              have H' := Aside0.mk H
              clear H
              go_wp2
              repeat (go_quiet (fail); try go_wp2)
              go_roundg k2
              case measure => have := HK1.out; have := HK2.out; omega
              case rel => exact ⟨(wrap64 (x5_1 + 1)), (by first | rfl | (simp; done) | (simp [*]; done)), H', ⟨by have := HK1.out; have := HK2.out; omega⟩, by repeat (first | exact Drawn0.refl _ | apply Drawn0.step)⟩
      · rw [if_neg c3] at H
        have c3b0 : decide (x5_1 < (a0.size : Int)) = false := decide_eq_false c3
        clear c3
        obtain rfl := Option.some.inj H
        go_wp2
        repeat (go_quiet (fail); try go_wp2)
        go_ret
        exact ⟨by first | rfl | (simp; done) | (simp [*]; done), by repeat (first | exact Drawn0.refl _ | apply Drawn0.step)⟩
end Go.Proofs.YtemgofomhjabpaaGreatDoor.Core
namespace Go.Proofs.YtemgofomhjabpaaGreatDoor.Core
open Go.RowKit Go.Proofs.YtemgofomhjabpaaGreatDoorW.PrintWords
def ErrV (er : Bool) (ev : Value) : Prop := (er = false ∧ ev = .nilIface) ∨ (er = true ∧ ∃ t v, ev = .iface t v)
def OffC (c : Nat) (val : Int) (pos : Nat) (o : ByteArray) (b er : Bool) : Prop := ∀ w, Calls Tryz.prog 117 #[.pointer (some ⟨c, 0, none⟩), .string o, .int .i64 val, .int .i64 (pos : Int)] w fun e w' => ∃ ev, e = .returned (.tuple #[.bool b, ev]) ∧ ErrV er ev ∧ Below w.heap.size w w'
theorem ErrV.nil {ev : Value} (h : ErrV false ev) : ev = .nilIface := by rcases h with ⟨_, h⟩ | ⟨h, _⟩ <;> simp_all
theorem ErrV.err {ev : Value} (h : ErrV true ev) : ∃ t v, ev = .iface t v := by rcases h with ⟨h, _⟩ | ⟨_, h⟩ <;> simp_all
def DueL (c : Nat) (val : Int) (pos : Nat) : List ByteArray → Bool → Bool → Prop
  | [], b, er => b = false ∧ er = false
  | o :: t, b, er => ∃ b1 e1, OffC c val pos o b1 e1 ∧ (if b1 = true ∨ e1 = true then b = b1 ∧ er = e1 else DueL c val pos t b er)
theorem rdOf_nat (xs : List ByteArray) (j : Nat) (h : j < xs.length) : rdOf ByteArray.empty xs (j : Int) = xs[j] := by simp [rdOf, h]
def SX (n : Nat) (x : Int) (w' : World) : Prop := n < w'.heap.size ∧ w'.cell? ⟨n, 0, none⟩ = some (.int .u64 0) ∧ w'.cell? ⟨n, 1, none⟩ = some (.int .i64 x) ∧ w'.cell? ⟨n, 2, none⟩ = some (.pointer none)
theorem SX.below {n : Nat} {x : Int} {a b : World} (hb : Below a.heap.size a b) (hS : SX n x a) : SX n x b := ⟨Nat.lt_of_lt_of_le hS.1 hb.size, cell_after hb hS.2.1, cell_after hb hS.2.2.1, cell_after hb hS.2.2.2⟩
set_option maxRecDepth 100000 in
theorem ck_other (c : Nat) {x y mo d h mi s : Int} (M : Moment' x y mo d h mi s) (seg : ByteArray) (pos : Nat) (hp : pos < 7) (h3 : pos ≠ 3) (h5 : pos ≠ 5) (k : Nat) (offs : List ByteArray) (hs : gronx_zzSplit.f k seg ⟨#[44]⟩ = some offs) (hn : offs.length < 1000000)
    (b er : Bool) (hD : DueL c (posV y mo d h mi s pos) pos offs b er) (w : World) (hc0 : w.cell? ⟨c, 0, none⟩ = some (.int .u64 0)) (hc1 : w.cell? ⟨c, 1, none⟩ = some (.int .i64 x)) (hc2 : w.cell? ⟨c, 2, none⟩ = some (.pointer none)) :
    Calls Tryz.prog 111 #[.pointer (some ⟨c, 0, none⟩), .string seg, .int .i64 (pos : Int)] w fun e w' => ∃ ev, e = .returned (.tuple #[.bool b, ev]) ∧ ErrV er ev ∧ Below w.heap.size w w' := by
  have e3 : ((pos : Int) == 3) = false := by simp; omega
  have e5 : ((pos : Int) == 5) = false := by simp; omega
  have M := Aside0.mk M
  have hs := Aside0.mk hs
  have hD := Aside0.mk hD
  have hp := Aside0.mk hp
  go_enter Tryz.func111, Tryz.ntmps111
  go_wp2_with (go_at_call 112; refine (getRef_w c x _ hc0 hc1 hc2).mono ?_; rintro e w1 ⟨rfl, hb1⟩)
  go_region_held (fun w' => w1.heap.size < w'.heap.size ∧ w'.cell? ⟨w1.heap.size, 0, none⟩ = some (.int .u64 0) ∧ w'.cell? ⟨w1.heap.size, 1, none⟩ = some (.int .i64 x) ∧ w'.cell? ⟨w1.heap.size, 2, none⟩ = some (.pointer none))
    (first | exact SX.below hb2 (by assumption) | exact SX.below hb3 (by assumption) | go_keep | (trace_state; fail)) (first | (go_at_call 114; refine (val_w M.out pos hp.out _).mono ?_; rintro e w2 ⟨rfl, hb2⟩) | (go_at_call 115; refine (location_any x _).mono ?_; rintro e w3 ⟨bl, rfl, hlo, hlu, hb3⟩))
  rename_i hHeld
  clear hHeld
  have HB : Below w.heap.size w w3 := (below_step (below_step (below_drew1 (below_alloc hb1 _)) hb2) hb3)
  have HB := Aside0.mk HB
  clear hb1 hb2 hb3 hlo hlu hc0 hc1 hc2
  go_wp2_with (go_at_call 62; refine (gronx_zzSplit.calls k seg ⟨#[44]⟩ offs _ hs.out).mono ?_; rintro e w4 ⟨v0, rfl, hR, hb4⟩; obtain ⟨A, cc, rfl⟩ := Kd.R_slice hR)
  have HR := Aside0.mk (Kd.R_reads' hR).2.2
  have HB4 := Aside0.mk (below_step HB.out hb4)
  clear hR hb4 HB
  go_loopg [31] offs.length (fun kq v31 w' => ∃ (j : Nat), v31 = .int .i64 (j : Int) ∧ Aside0 (DueL c (posV y mo d h mi s pos) pos (offs.drop j) b er) ∧ Aside0 (kq + j = offs.length) ∧ Aside0 (Below w4.heap.size w4 w'))
  case atStart => exact ⟨0, rfl, hD, ⟨rfl⟩, ⟨by repeat (first | exact Below.refl _ _ | apply below_drew1 | apply pw_below_drewN)⟩⟩
  case round =>
    clear hD
    obtain ⟨j, rfl, HD, HK, HW⟩ := hrel
    by_cases hj : j < offs.length
    · have q : ((j : Int) < (offs.length : Int)) := by omega
      have p0 : 0 ≤ (j : Int) := by omega
      have q0 : decide ((j : Int) < (offs.length : Int)) = true := decide_eq_true q
      obtain ⟨ad, rfl, hx⟩ := Kd.at_string HR.out (j : Int) p0 q
      replace hx := cell_after HW.out hx
      rw [rdOf_nat _ _ hj, Int.toNat_natCast] at hx
      have HD' := HD.out
      rw [List.drop_eq_getElem_cons hj] at HD'
      obtain ⟨b1, e1, hoff, hif⟩ := HD'
      have hoff := Aside0.mk hoff
      have hif := Aside0.mk hif
      clear HD
      have hb : ∀ W, Below W.heap.size W W := fun W => Below.refl _ _
      cases b1 with
      | true =>
        obtain ⟨rfl, rfl⟩ : b = true ∧ er = e1 := by have := hif.out; simpa using this
        go_wp2_with (go_at_call 117; refine (hoff.out _).mono ?_; rintro e w5 ⟨ev, rfl, hev, hb5⟩)
        go_ret2
        exact ⟨ev, rfl, hev, below_step (below_step HB4.out HW.out) hb5⟩
      | false =>
        cases e1 with
        | true =>
          obtain ⟨rfl, rfl⟩ : b = false ∧ er = true := by have := hif.out; simpa using this
          go_wp2_with (go_at_call 117; refine (hoff.out _).mono ?_; rintro e w5 ⟨ev, rfl, hev, hb5⟩; obtain ⟨te, ve, rfl⟩ := ErrV.err hev)
          go_ret2
          exact ⟨_, rfl, hev, below_step (below_step HB4.out HW.out) hb5⟩
        | false =>
          have hr : DueL c (posV y mo d h mi s pos) pos (offs.drop (j + 1)) b er := by have := hif.out; simpa using this
          have hr := Aside0.mk hr
          go_wp2_with (go_at_call 117; refine (hoff.out _).mono ?_; rintro e w5 ⟨ev, rfl, hev, hb5⟩; obtain rfl := ErrV.nil hev)
          go_roundg (gk - 1)
          case measure => have := HK.out; omega
          case rel => exact ⟨j + 1, by simp, hr, ⟨by have := HK.out; omega⟩, ⟨by repeat (first | exact below_step HW.out hb5 | apply below_drew1 | apply pw_below_drewN)⟩⟩
    · have q0 : decide ((j : Int) < (offs.length : Int)) = false := decide_eq_false (by omega)
      have HD' := HD.out
      rw [List.drop_eq_nil_of_le (by omega)] at HD'
      obtain ⟨rfl, rfl⟩ := HD'
      go_wp2
      go_ret2
      exact ⟨_, rfl, .inl ⟨rfl, rfl⟩, below_step HB4.out HW.out⟩
end Go.Proofs.YtemgofomhjabpaaGreatDoor.Core
