/-
  PROVED: THE CARD OF laws.FnValid: for every expression and moment that come in, the call returns true, and the arguments read as they did.
  CONDITIONS: the row's own ('laid': tables of Go's library read as the row lists them; the tie is given).
-/
import Derived.Test.YtkhgeonlohafgaaGreatDoorCVal1
import Derived.Test.YtkhgeonlohafgaaGreatDoorCVal2
import Derived.Test.YtkhgeonlohafgaaGreatDoorCVal3
import Derived.Test.YtkhgeonlohafgaaGreatDoorCVal4
import Derived.Test.YtkhgeonlohafgaaGreatDoorCVal5
import Derived.Deep.Slices
import Derived.Deep.Fields
import Derived.ChangeSame
import Derived.Lib.SmallJoins
import Derived.WideShapes
import Derived.OpenShut
import Derived.Test.YtkhgeonlohafgaaGreatDoorCards
import Derived.Test.YtkhgeonlohafgaaGreatDoorTie
import Derived.ProofKit
import Derived.LaidMore
import Derived.Lay
import Derived.SevenTiedAt
import Derived.Carry
namespace Go.Proofs.YtkhgeonlohafgaaGreatDoor.Core
open Go.RowKit Go.Proofs.YtkhgeonlohafgaaGreatDoorW.PrintWords
def ErrV (er : Bool) (ev : Value) : Prop := (er = false ∧ ev = .nilIface) ∨ (er = true ∧ ∃ t v, ev = .iface t v)
def OffC (c : Nat) (val : Int) (pos : Nat) (o : ByteArray) (b er : Bool) : Prop := ∀ w, Calls Tryz.prog 60 #[.pointer (some ⟨c, 0, none⟩), .string o, .int .i64 val, .int .i64 (pos : Int)] w fun e w' => ∃ ev, e = .returned (.tuple #[.bool b, ev]) ∧ ErrV er ev ∧ Below w.heap.size w w'
theorem ErrV.nil {ev : Value} (h : ErrV false ev) : ev = .nilIface := by rcases h with ⟨_, h⟩ | ⟨h, _⟩ <;> simp_all
theorem ErrV.err {ev : Value} (h : ErrV true ev) : ∃ t v, ev = .iface t v := by rcases h with ⟨h, _⟩ | ⟨_, h⟩ <;> simp_all
def DueL (c : Nat) (val : Int) (pos : Nat) : List ByteArray → Bool → Bool → Prop
  | [], b, er => b = false ∧ er = false
  | o :: t, b, er => ∃ b1 e1, OffC c val pos o b1 e1 ∧ (if b1 = true ∨ e1 = true then b = b1 ∧ er = e1 else DueL c val pos t b er)
theorem rdOf_nat (xs : List ByteArray) (j : Nat) (h : j < xs.length) : rdOf ByteArray.empty xs (j : Int) = xs[j] := by simp [rdOf, h]
def SX (n : Nat) (x : Int) (w' : World) : Prop := n < w'.heap.size ∧ w'.cell? ⟨n, 0, none⟩ = some (.int .u64 0) ∧ w'.cell? ⟨n, 1, none⟩ = some (.int .i64 x) ∧ w'.cell? ⟨n, 2, none⟩ = some (.pointer none)
theorem SX.below {n : Nat} {x : Int} {a b : World} (hb : Below a.heap.size a b) (hS : SX n x a) : SX n x b := ⟨Nat.lt_of_lt_of_le hS.1 hb.size, cell_after hb hS.2.1, cell_after hb hS.2.2.1, cell_after hb hS.2.2.2⟩
set_option maxRecDepth 100000 in
theorem ck_other (c : Nat) {x y mo d h mi s : Int} (M : Moment' x y mo d h mi s) (seg : ByteArray) (pos : Nat) (hp : pos < 7) (h3 : pos ≠ 3) (h5 : pos ≠ 5) (k : Nat) (offs : List ByteArray) (hs : gronx_zzSplit.f k seg ⟨#[44]⟩ = some offs) (hn : offs.length < 1000000)
    (b er : Bool) (hD : DueL c (posV y mo d h mi s pos) pos offs b er) (w : World) (hc0 : w.cell? ⟨c, 0, none⟩ = some (.int .u64 0)) (hc1 : w.cell? ⟨c, 1, none⟩ = some (.int .i64 x)) (hc2 : w.cell? ⟨c, 2, none⟩ = some (.pointer none)) :
    Calls Tryz.prog 44 #[.pointer (some ⟨c, 0, none⟩), .string seg, .int .i64 (pos : Int)] w fun e w' => ∃ ev, e = .returned (.tuple #[.bool b, ev]) ∧ ErrV er ev ∧ Below w.heap.size w w' := by
  have e3 : ((pos : Int) == 3) = false := by simp; omega
  have e5 : ((pos : Int) == 5) = false := by simp; omega
  have M := Aside0.mk M
  have hs := Aside0.mk hs
  have hD := Aside0.mk hD
  have hp := Aside0.mk hp
  go_enter Tryz.func44, Tryz.ntmps44
  go_wp2_with (go_at_call 57; refine (getRef_w c x _ hc0 hc1 hc2).mono ?_; rintro e w1 ⟨rfl, hb1⟩)
  go_region_held (fun w' => w1.heap.size < w'.heap.size ∧ w'.cell? ⟨w1.heap.size, 0, none⟩ = some (.int .u64 0) ∧ w'.cell? ⟨w1.heap.size, 1, none⟩ = some (.int .i64 x) ∧ w'.cell? ⟨w1.heap.size, 2, none⟩ = some (.pointer none))
    (first | exact SX.below hb2 (by assumption) | exact SX.below hb3 (by assumption) | go_keep | (trace_state; fail)) (first | (go_at_call 58; refine (val_w M.out pos hp.out _).mono ?_; rintro e w2 ⟨rfl, hb2⟩) | (go_at_call 59; refine (location_any x _).mono ?_; rintro e w3 ⟨bl, rfl, hlo, hlu, hb3⟩))
  rename_i hHeld
  clear hHeld
  have HB : Below w.heap.size w w3 := (below_step (below_step (below_drew1 (below_alloc hb1 _)) hb2) hb3)
  have HB := Aside0.mk HB
  clear hb1 hb2 hb3 hlo hlu hc0 hc1 hc2
  go_wp2_with (go_at_call 54; refine (gronx_zzSplit.calls k seg ⟨#[44]⟩ offs _ hs.out).mono ?_; rintro e w4 ⟨v0, rfl, hR, hb4⟩; obtain ⟨A, cc, rfl⟩ := Kd.R_slice hR)
  have HR := Aside0.mk (Kd.R_reads' hR).2.2
  have HB4 := Aside0.mk (below_step HB.out hb4)
  clear hR hb4 HB
  go_loopg [31] offs.length (fun kq v31 w' => ∃ (j : Nat), v31 = .int .i64 (j : Int) ∧ Aside0 (DueL c (posV y mo d h mi s pos) pos (offs.drop j) b er) ∧ Aside0 (kq + j = offs.length) ∧ Aside0 (Below w4.heap.size w4 w'))
  case atStart => exact ⟨0, rfl, hD, ⟨rfl⟩, ⟨by repeat (first | exact Below.refl _ _ | apply below_drew1 | apply pw_below_drewN)⟩⟩
  case round =>
    clear hD
    obtain ⟨j, rfl, HD, HK, HW⟩ := hrel
    by_cases hj : j < offs.length
    · have q : ((j : Int) < (offs.length : Int)) := by omega
      have p0 : 0 ≤ (j : Int) := by omega
      have q0 : decide ((j : Int) < (offs.length : Int)) = true := decide_eq_true q
      obtain ⟨ad, rfl, hx⟩ := Kd.at_string HR.out (j : Int) p0 q
      replace hx := cell_after HW.out hx
      rw [rdOf_nat _ _ hj, Int.toNat_natCast] at hx
      have HD' := HD.out
      rw [List.drop_eq_getElem_cons hj] at HD'
      obtain ⟨b1, e1, hoff, hif⟩ := HD'
      have hoff := Aside0.mk hoff
      have hif := Aside0.mk hif
      clear HD
      have hb : ∀ W, Below W.heap.size W W := fun W => Below.refl _ _
      cases b1 with
      | true =>
        obtain ⟨rfl, rfl⟩ : b = true ∧ er = e1 := by have := hif.out; simpa using this
        go_wp2_with (go_at_call 60; refine (hoff.out _).mono ?_; rintro e w5 ⟨ev, rfl, hev, hb5⟩)
        go_ret2
        exact ⟨ev, rfl, hev, below_step (below_step HB4.out HW.out) hb5⟩
      | false =>
        cases e1 with
        | true =>
          obtain ⟨rfl, rfl⟩ : b = false ∧ er = true := by have := hif.out; simpa using this
          go_wp2_with (go_at_call 60; refine (hoff.out _).mono ?_; rintro e w5 ⟨ev, rfl, hev, hb5⟩; obtain ⟨te, ve, rfl⟩ := ErrV.err hev)
          go_ret2
          exact ⟨_, rfl, hev, below_step (below_step HB4.out HW.out) hb5⟩
        | false =>
          have hr : DueL c (posV y mo d h mi s pos) pos (offs.drop (j + 1)) b er := by have := hif.out; simpa using this
          have hr := Aside0.mk hr
          go_wp2_with (go_at_call 60; refine (hoff.out _).mono ?_; rintro e w5 ⟨ev, rfl, hev, hb5⟩; obtain rfl := ErrV.nil hev)
          go_roundg (gk - 1)
          case measure => have := HK.out; omega
          case rel => exact ⟨j + 1, by simp, hr, ⟨by have := HK.out; omega⟩, ⟨by repeat (first | exact below_step HW.out hb5 | apply below_drew1 | apply pw_below_drewN)⟩⟩
    · have q0 : decide ((j : Int) < (offs.length : Int)) = false := decide_eq_false (by omega)
      have HD' := HD.out
      rw [List.drop_eq_nil_of_le (by omega)] at HD'
      obtain ⟨rfl, rfl⟩ := HD'
      go_wp2
      go_ret2
      exact ⟨_, rfl, .inl ⟨rfl, rfl⟩, below_step HB4.out HW.out⟩
end Go.Proofs.YtkhgeonlohafgaaGreatDoor.Core
namespace Go.Proofs.YtkhgeonlohafgaaGreatDoor.Core
open Go.RowKit Go.Proofs.YtkhgeonlohafgaaGreatDoorW.PrintWords
theorem below_drewNd {w W : World} (h : Below w.heap.size w W) (n : Nat) : Below w.heap.size w (W.drewN n) := below_drewN h n
set_option maxRecDepth 100000 in
set_option maxHeartbeats 800000 in
theorem ck_three (c : Nat) {x y mo d h mi s : Int} (M : Moment' x y mo d h mi s) (seg : ByteArray) (pos : Nat) (hp : pos < 7) (h3 : pos = 3) (k : Nat) (offs : List ByteArray) (hs : gronx_zzSplit.f k seg ⟨#[44]⟩ = some offs) (hn : offs.length < 1000000) (hm : ∀ o ∈ offs, gronx_zzContainsAny.f k o ⟨#[76, 87, 35]⟩ = some false)
    (b er : Bool) (hD : DueL c (posV y mo d h mi s pos) pos offs b er) (w : World) (hc0 : w.cell? ⟨c, 0, none⟩ = some (.int .u64 0)) (hc1 : w.cell? ⟨c, 1, none⟩ = some (.int .i64 x)) (hc2 : w.cell? ⟨c, 2, none⟩ = some (.pointer none)) :
    Calls Tryz.prog 44 #[.pointer (some ⟨c, 0, none⟩), .string seg, .int .i64 (pos : Int)] w fun e w' => ∃ ev, e = .returned (.tuple #[.bool b, ev]) ∧ ErrV er ev ∧ Below w.heap.size w w' := by
  have e3 : ((pos : Int) == 3) = true := by simp; omega
  have e5 : ((pos : Int) == 5) = false := by simp; omega
  clear h3
  have M := Aside0.mk M
  have hs := Aside0.mk hs
  have hD := Aside0.mk hD
  have hp := Aside0.mk hp
  go_enter Tryz.func44, Tryz.ntmps44
  go_wp2_with (go_at_call 57; refine (getRef_w c x _ hc0 hc1 hc2).mono ?_; rintro e w1 ⟨rfl, hb1⟩)
  go_region_held (fun w' => w1.heap.size < w'.heap.size ∧ w'.cell? ⟨w1.heap.size, 0, none⟩ = some (.int .u64 0) ∧ w'.cell? ⟨w1.heap.size, 1, none⟩ = some (.int .i64 x) ∧ w'.cell? ⟨w1.heap.size, 2, none⟩ = some (.pointer none))
    (first | exact SX.below hb2 (by assumption) | exact SX.below hb3 (by assumption) | go_keep | (trace_state; fail)) (first | (go_at_call 58; refine (val_w M.out pos hp.out _).mono ?_; rintro e w2 ⟨rfl, hb2⟩) | (go_at_call 59; refine (location_any x _).mono ?_; rintro e w3 ⟨bl, rfl, hlo, hlu, hb3⟩))
  rename_i hHeld
  clear hHeld
  have HB : Below w.heap.size w w3 := (below_step (below_step (below_drew1 (below_alloc hb1 _)) hb2) hb3)
  have HB := Aside0.mk HB
  clear hb1 hb2 hb3 hlo hlu hc0 hc1 hc2
  go_wp2_with (go_at_call 54; refine (gronx_zzSplit.calls k seg ⟨#[44]⟩ offs _ hs.out).mono ?_; rintro e w4 ⟨v0, rfl, hR, hb4⟩; obtain ⟨A, cc, rfl⟩ := Kd.R_slice hR)
  have HR := Aside0.mk (Kd.R_reads' hR).2.2
  have HB4 := Aside0.mk (below_step HB.out hb4)
  clear hR hb4 HB
  go_loopg [31] offs.length (fun kq v31 w' => ∃ (j : Nat), v31 = .int .i64 (j : Int) ∧ Aside0 (DueL c (posV y mo d h mi s pos) pos (offs.drop j) b er) ∧ Aside0 (kq + j = offs.length) ∧ Aside0 (Below w4.heap.size w4 w'))
  case atStart => exact ⟨0, rfl, hD, ⟨rfl⟩, ⟨by repeat (first | exact Below.refl _ _ | apply below_drew1 | apply pw_below_drewN)⟩⟩
  case round =>
    clear hD
    obtain ⟨j, rfl, HD, HK, HW⟩ := hrel
    by_cases hj : j < offs.length
    · have q : ((j : Int) < (offs.length : Int)) := by omega
      have p0 : 0 ≤ (j : Int) := by omega
      have q0 : decide ((j : Int) < (offs.length : Int)) = true := decide_eq_true q
      obtain ⟨ad, rfl, hx⟩ := Kd.at_string HR.out (j : Int) p0 q
      replace hx := cell_after HW.out hx
      rw [rdOf_nat _ _ hj, Int.toNat_natCast] at hx
      have HD' := HD.out
      rw [List.drop_eq_getElem_cons hj] at HD'
      obtain ⟨b1, e1, hoff, hif⟩ := HD'
      have hmo := Aside0.mk (hm _ (List.getElem_mem hj))
      have hoff := Aside0.mk hoff
      have hif := Aside0.mk hif
      clear HD
      have hb : ∀ W, Below W.heap.size W W := fun W => Below.refl _ _
      cases b1 with
      | true =>
        obtain ⟨rfl, rfl⟩ : b = true ∧ er = e1 := by have := hif.out; simpa using this
        go_wp2_with (first | (go_at_call 55; refine (gronx_zzContainsAny.calls k _ _ false _ hmo.out).mono ?_; rintro e w' ⟨rfl, ⟨nd, rfl⟩⟩) | (go_at_call 60; refine (hoff.out _).mono ?_; rintro e w5 ⟨ev, rfl, hev, hb5⟩))
        go_ret2
        exact ⟨ev, rfl, hev, below_step (below_drewNd (below_step HB4.out HW.out) _) hb5⟩
      | false =>
        cases e1 with
        | true =>
          obtain ⟨rfl, rfl⟩ : b = false ∧ er = true := by have := hif.out; simpa using this
          go_wp2_with (first | (go_at_call 55; refine (gronx_zzContainsAny.calls k _ _ false _ hmo.out).mono ?_; rintro e w' ⟨rfl, ⟨nd, rfl⟩⟩) | (go_at_call 60; refine (hoff.out _).mono ?_; rintro e w5 ⟨ev, rfl, hev, hb5⟩; obtain ⟨te, ve, rfl⟩ := ErrV.err hev))
          go_ret2
          exact ⟨_, rfl, hev, below_step (below_drewNd (below_step HB4.out HW.out) _) hb5⟩
        | false =>
          have hr : DueL c (posV y mo d h mi s pos) pos (offs.drop (j + 1)) b er := by have := hif.out; simpa using this
          have hr := Aside0.mk hr
          go_wp2_with (first | (go_at_call 55; refine (gronx_zzContainsAny.calls k _ _ false _ hmo.out).mono ?_; rintro e w' ⟨rfl, ⟨nd, rfl⟩⟩) | (go_at_call 60; refine (hoff.out _).mono ?_; rintro e w5 ⟨ev, rfl, hev, hb5⟩; obtain rfl := ErrV.nil hev))
          go_roundg (gk - 1)
          case measure => have := HK.out; omega
          case rel => exact ⟨j + 1, by simp, hr, ⟨by have := HK.out; omega⟩, ⟨by repeat (first | exact below_step (below_drewNd HW.out _) hb5 | apply below_drew1 | apply pw_below_drewN)⟩⟩
    · have q0 : decide ((j : Int) < (offs.length : Int)) = false := decide_eq_false (by omega)
      have HD' := HD.out
      rw [List.drop_eq_nil_of_le (by omega)] at HD'
      obtain ⟨rfl, rfl⟩ := HD'
      go_wp2
      go_ret2
      exact ⟨_, rfl, .inl ⟨rfl, rfl⟩, below_step HB4.out HW.out⟩
set_option maxRecDepth 100000 in
set_option maxHeartbeats 800000 in
theorem ck_five (c : Nat) {x y mo d h mi s : Int} (M : Moment' x y mo d h mi s) (seg : ByteArray) (pos : Nat) (hp : pos < 7) (h5 : pos = 5) (k : Nat) (offs : List ByteArray) (hs : gronx_zzSplit.f k seg ⟨#[44]⟩ = some offs) (hn : offs.length < 1000000) (hm : ∀ o ∈ offs, gronx_zzContainsAny.f k o ⟨#[76, 87, 35]⟩ = some false)
    (b er : Bool) (hD : DueL c (posV y mo d h mi s pos) pos offs b er) (w : World) (hc0 : w.cell? ⟨c, 0, none⟩ = some (.int .u64 0)) (hc1 : w.cell? ⟨c, 1, none⟩ = some (.int .i64 x)) (hc2 : w.cell? ⟨c, 2, none⟩ = some (.pointer none)) :
    Calls Tryz.prog 44 #[.pointer (some ⟨c, 0, none⟩), .string seg, .int .i64 (pos : Int)] w fun e w' => ∃ ev, e = .returned (.tuple #[.bool b, ev]) ∧ ErrV er ev ∧ Below w.heap.size w w' := by
  have e3 : ((pos : Int) == 3) = false := by simp; omega
  have e5 : ((pos : Int) == 5) = true := by simp; omega
  clear h5
  have M := Aside0.mk M
  have hs := Aside0.mk hs
  have hD := Aside0.mk hD
  have hp := Aside0.mk hp
  go_enter Tryz.func44, Tryz.ntmps44
  go_wp2_with (go_at_call 57; refine (getRef_w c x _ hc0 hc1 hc2).mono ?_; rintro e w1 ⟨rfl, hb1⟩)
  go_region_held (fun w' => w1.heap.size < w'.heap.size ∧ w'.cell? ⟨w1.heap.size, 0, none⟩ = some (.int .u64 0) ∧ w'.cell? ⟨w1.heap.size, 1, none⟩ = some (.int .i64 x) ∧ w'.cell? ⟨w1.heap.size, 2, none⟩ = some (.pointer none))
    (first | exact SX.below hb2 (by assumption) | exact SX.below hb3 (by assumption) | go_keep | (trace_state; fail)) (first | (go_at_call 58; refine (val_w M.out pos hp.out _).mono ?_; rintro e w2 ⟨rfl, hb2⟩) | (go_at_call 59; refine (location_any x _).mono ?_; rintro e w3 ⟨bl, rfl, hlo, hlu, hb3⟩))
  rename_i hHeld
  clear hHeld
  have HB : Below w.heap.size w w3 := (below_step (below_step (below_drew1 (below_alloc hb1 _)) hb2) hb3)
  have HB := Aside0.mk HB
  clear hb1 hb2 hb3 hlo hlu hc0 hc1 hc2
  go_wp2_with (go_at_call 54; refine (gronx_zzSplit.calls k seg ⟨#[44]⟩ offs _ hs.out).mono ?_; rintro e w4 ⟨v0, rfl, hR, hb4⟩; obtain ⟨A, cc, rfl⟩ := Kd.R_slice hR)
  have HR := Aside0.mk (Kd.R_reads' hR).2.2
  have HB4 := Aside0.mk (below_step HB.out hb4)
  clear hR hb4 HB
  go_loopg [31] offs.length (fun kq v31 w' => ∃ (j : Nat), v31 = .int .i64 (j : Int) ∧ Aside0 (DueL c (posV y mo d h mi s pos) pos (offs.drop j) b er) ∧ Aside0 (kq + j = offs.length) ∧ Aside0 (Below w4.heap.size w4 w'))
  case atStart => exact ⟨0, rfl, hD, ⟨rfl⟩, ⟨by repeat (first | exact Below.refl _ _ | apply below_drew1 | apply pw_below_drewN)⟩⟩
  case round =>
    clear hD
    obtain ⟨j, rfl, HD, HK, HW⟩ := hrel
    by_cases hj : j < offs.length
    · have q : ((j : Int) < (offs.length : Int)) := by omega
      have p0 : 0 ≤ (j : Int) := by omega
      have q0 : decide ((j : Int) < (offs.length : Int)) = true := decide_eq_true q
      obtain ⟨ad, rfl, hx⟩ := Kd.at_string HR.out (j : Int) p0 q
      replace hx := cell_after HW.out hx
      rw [rdOf_nat _ _ hj, Int.toNat_natCast] at hx
      have HD' := HD.out
      rw [List.drop_eq_getElem_cons hj] at HD'
      obtain ⟨b1, e1, hoff, hif⟩ := HD'
      have hmo := Aside0.mk (hm _ (List.getElem_mem hj))
      have hoff := Aside0.mk hoff
      have hif := Aside0.mk hif
      clear HD
      have hb : ∀ W, Below W.heap.size W W := fun W => Below.refl _ _
      cases b1 with
      | true =>
        obtain ⟨rfl, rfl⟩ : b = true ∧ er = e1 := by have := hif.out; simpa using this
        go_wp2_with (first | (go_at_call 55; refine (gronx_zzContainsAny.calls k _ _ false _ hmo.out).mono ?_; rintro e w' ⟨rfl, ⟨nd, rfl⟩⟩) | (go_at_call 60; refine (hoff.out _).mono ?_; rintro e w5 ⟨ev, rfl, hev, hb5⟩))
        go_ret2
        exact ⟨ev, rfl, hev, below_step (below_drewNd (below_step HB4.out HW.out) _) hb5⟩
      | false =>
        cases e1 with
        | true =>
          obtain ⟨rfl, rfl⟩ : b = false ∧ er = true := by have := hif.out; simpa using this
          go_wp2_with (first | (go_at_call 55; refine (gronx_zzContainsAny.calls k _ _ false _ hmo.out).mono ?_; rintro e w' ⟨rfl, ⟨nd, rfl⟩⟩) | (go_at_call 60; refine (hoff.out _).mono ?_; rintro e w5 ⟨ev, rfl, hev, hb5⟩; obtain ⟨te, ve, rfl⟩ := ErrV.err hev))
          go_ret2
          exact ⟨_, rfl, hev, below_step (below_drewNd (below_step HB4.out HW.out) _) hb5⟩
        | false =>
          have hr : DueL c (posV y mo d h mi s pos) pos (offs.drop (j + 1)) b er := by have := hif.out; simpa using this
          have hr := Aside0.mk hr
          go_wp2_with (first | (go_at_call 55; refine (gronx_zzContainsAny.calls k _ _ false _ hmo.out).mono ?_; rintro e w' ⟨rfl, ⟨nd, rfl⟩⟩) | (go_at_call 60; refine (hoff.out _).mono ?_; rintro e w5 ⟨ev, rfl, hev, hb5⟩; obtain rfl := ErrV.nil hev))
          go_roundg (gk - 1)
          case measure => have := HK.out; omega
          case rel => exact ⟨j + 1, by simp, hr, ⟨by have := HK.out; omega⟩, ⟨by repeat (first | exact below_step (below_drewNd HW.out _) hb5 | apply below_drew1 | apply pw_below_drewN)⟩⟩
    · have q0 : decide ((j : Int) < (offs.length : Int)) = false := decide_eq_false (by omega)
      have HD' := HD.out
      rw [List.drop_eq_nil_of_le (by omega)] at HD'
      obtain ⟨rfl, rfl⟩ := HD'
      go_wp2
      go_ret2
      exact ⟨_, rfl, .inl ⟨rfl, rfl⟩, below_step HB4.out HW.out⟩
end Go.Proofs.YtkhgeonlohafgaaGreatDoor.Core
namespace Go.Proofs.YtkhgeonlohafgaaGreatDoor.Core
open Go.RowKit Go.Proofs.YtkhgeonlohafgaaGreatDoorW.PrintWords
def SegA (x : Int) (seg : ByteArray) (pos : Nat) (b er : Bool) : Prop := ∀ (c : Nat) (w : World), w.cell? ⟨c, 0, none⟩ = some (.int .u64 0) → w.cell? ⟨c, 1, none⟩ = some (.int .i64 x) → w.cell? ⟨c, 2, none⟩ = some (.pointer none) →
    Calls Tryz.prog 44 #[.pointer (some ⟨c, 0, none⟩), .string seg, .int .i64 (pos : Int)] w fun e w' => ∃ ev, e = .returned (.tuple #[.bool b, ev]) ∧ ErrV er ev ∧ Below w.heap.size w w'
theorem segA_of {x y mo d h mi s : Int} (M : Moment' x y mo d h mi s) (seg : ByteArray) (pos : Nat) (hp : pos < 7) (k : Nat) (offs : List ByteArray) (hs : gronx_zzSplit.f k seg ⟨#[44]⟩ = some offs) (hn : offs.length < 1000000)
    (hm : pos = 3 ∨ pos = 5 → ∀ o ∈ offs, gronx_zzContainsAny.f k o ⟨#[76, 87, 35]⟩ = some false) (b er : Bool) (hD : ∀ c, DueL c (posV y mo d h mi s pos) pos offs b er) : SegA x seg pos b er := by
  intro c w h0 h1 h2
  by_cases h3 : pos = 3
  · exact ck_three c M seg pos hp h3 k offs hs hn (hm (.inl h3)) b er (hD c) w h0 h1 h2
  · by_cases h5 : pos = 5
    · exact ck_five c M seg pos hp h5 k offs hs hn (hm (.inr h5)) b er (hD c) w h0 h1 h2
    · exact ck_other c M seg pos hp h3 h5 k offs hs hn b er (hD c) w h0 h1 h2
def ValidL (x : Int) : Nat → List ByteArray → Bool → Prop
  | _, [], r => r = true
  | p, s :: t, r => ∃ b er, SegA x s p b er ∧ (if er = true then r = false else ValidL x (p + 1) t r)
set_option maxRecDepth 100000 in
theorem isValid_w (x : Int) (expr : ByteArray) (k : Nat) (segs : List ByteArray) (hS : gronx_Segments.f k expr = some (segs, none)) (hn : segs.length < 1000000) (hV : gronx_isSyntaxValid.f k segs = some true) (r : Bool) (hL : ValidL x 0 segs r) (w : World) :
    Calls Tryz.prog 31 #[.string expr, .agg #[.int .u64 0, .int .i64 x, .pointer none]] w fun e w' => e = .returned (.bool r) ∧ Below w.heap.size w w' := by
  have hS := Aside0.mk hS
  have hV := Aside0.mk hV
  have hL := Aside0.mk hL
  go_enter Tryz.func31, Tryz.ntmps31
  go_wp2_with (first | (go_at_call 36; refine (gronx_Segments.calls k expr segs none _ hS.out).mono ?_; rintro e w1 ⟨v0, rfl, hR, hb1⟩; obtain ⟨A, cc, rfl⟩ := Kd.R_slice hR; rw [errW_none]) | (go_at_call 43; refine (gronx_isSyntaxValid.calls k A cc segs true _ (Kd.R_reads' hR).2.2 (Kd.R_reads' hR).2.1 hV.out).mono ?_; rintro e w2 ⟨rfl, hb2⟩))
  have HB1 : Below w.heap.size w w1 := below_step (below_alloc (below_alloc (Below.refl _ _) _) _) hb1
  have HB2 := Aside0.mk (below_step HB1 hb2)
  have c0 : w1.cell? ⟨w.heap.size + 1, 0, none⟩ = some (.int .u64 0) := cell_after hb1 (by go_simp)
  have c1 : w1.cell? ⟨w.heap.size + 1, 1, none⟩ = some (.int .i64 x) := cell_after hb1 (by go_simp)
  have c2 : w1.cell? ⟨w.heap.size + 1, 2, none⟩ = some (.pointer none) := cell_after hb1 (by go_simp)
  replace c0 := Aside0.mk (cell_after hb2 c0)
  replace c1 := Aside0.mk (cell_after hb2 c1)
  replace c2 := Aside0.mk (cell_after hb2 c2)
  have HR := Aside0.mk (Kd.R_reads' hR).2.2
  have HR2 := Aside0.mk hb2
  clear hb1 hb2 hR HB1
  go_loopg [27] segs.length (fun kq v27 w' => ∃ (j : Nat), v27 = .int .i64 (j : Int) ∧ Aside0 (ValidL x j (segs.drop j) r) ∧ Aside0 (kq + j = segs.length) ∧ Aside0 (Below w2.heap.size w2 w'))
  case atStart => exact ⟨0, rfl, hL, ⟨rfl⟩, ⟨by repeat (first | exact Below.refl _ _ | apply below_drew1 | apply pw_below_drewN)⟩⟩
  case round =>
    clear hL
    obtain ⟨j, rfl, HD, HK, HW⟩ := hrel
    by_cases hj : j < segs.length
    · have q : ((j : Int) < (segs.length : Int)) := by omega
      have p0 : 0 ≤ (j : Int) := by omega
      have q0 : decide ((j : Int) < (segs.length : Int)) = true := decide_eq_true q
      obtain ⟨ad, rfl, hx⟩ := Kd.at_string HR.out (j : Int) p0 q
      replace hx := cell_after HW.out (cell_after HR2.out hx)
      rw [rdOf_nat _ _ hj, Int.toNat_natCast] at hx
      have HD' := HD.out
      rw [List.drop_eq_getElem_cons hj] at HD'
      obtain ⟨b1, e1, hoff, hif⟩ := HD'
      have hoff := Aside0.mk hoff
      have hif := Aside0.mk hif
      clear HD
      cases e1 with
      | true =>
        obtain rfl : r = false := by have := hif.out; simpa using this
        go_wp2_with (go_at_call 44; refine (hoff.out _ _ (cell_after HW.out c0.out) (cell_after HW.out c1.out) (cell_after HW.out c2.out)).mono ?_; rintro e w5 ⟨ev, rfl, hev, hb5⟩; obtain ⟨te, ve, rfl⟩ := ErrV.err hev)
        go_ret
        exact ⟨rfl, below_step (below_step HB2.out HW.out) hb5⟩
      | false =>
        have hr : ValidL x (j + 1) (segs.drop (j + 1)) r := by have := hif.out; simpa using this
        have hr := Aside0.mk hr
        go_wp2_with (go_at_call 44; refine (hoff.out _ _ (cell_after HW.out c0.out) (cell_after HW.out c1.out) (cell_after HW.out c2.out)).mono ?_; rintro e w5 ⟨ev, rfl, hev, hb5⟩; obtain rfl := ErrV.nil hev)
        go_roundg (gk - 1)
        case measure => have := HK.out; omega
        case rel => exact ⟨j + 1, by simp, hr, ⟨by have := HK.out; omega⟩, ⟨by repeat (first | exact below_step HW.out hb5 | apply below_drew1 | apply pw_below_drewN)⟩⟩
    · have q0 : decide ((j : Int) < (segs.length : Int)) = false := decide_eq_false (by omega)
      have HD' := HD.out
      rw [List.drop_eq_nil_of_le (by omega)] at HD'
      obtain rfl : r = true := HD'
      go_wp2
      go_ret
      exact ⟨rfl, below_step HB2.out HW.out⟩
theorem valid_w {y mo d h mi s : Int} (hd : DateOk y mo d) (hc : ClockOk h mi s) (expr : ByteArray) (r : Bool) (hI : ∀ w, Calls Tryz.prog 31 #[.string expr, .agg #[.int .u64 0, .int .i64 (extOf y mo d h mi s), .pointer none]] w fun e w' => e = .returned (.bool r) ∧ Below w.heap.size w w') (w : World) :
    Calls Tryz.prog 14 #[.string expr, .agg #[.int .i64 y, .int .i64 mo, .int .i64 d, .int .i64 h, .int .i64 mi, .int .i64 s]] w fun e w' => e = .returned (.bool r) ∧ Below w.heap.size w w' := by
  have hd := Aside0.mk hd
  have hc := Aside0.mk hc
  have hI := Aside0.mk hI
  go_enter Tryz.func14, Tryz.ntmps14
  go_wp2_with (first | (go_at_call 32; refine (timeOf_w hd.out hc.out _).mono ?_; rintro e w1 ⟨rfl, hb1⟩) | (go_at_call 31; refine (hI.out _).mono ?_; rintro e w2 ⟨rfl, hb2⟩))
  go_ret
  exact ⟨rfl, below_step (below_step (below_alloc (Below.refl _ _) _) hb1) hb2⟩
end Go.Proofs.YtkhgeonlohafgaaGreatDoor.Core
namespace Go.Proofs.YtkhgeonlohafgaaGreatDoor.Core
open Go.RowKit Go.Proofs.YtkhgeonlohafgaaGreatDoorW.PrintWords
end Go.Proofs.YtkhgeonlohafgaaGreatDoor.Core
namespace Go.Proofs.YtkhgeonlohafgaaGreatDoor.Core
open Go.RowKit
end Go.Proofs.YtkhgeonlohafgaaGreatDoor.Core
namespace Go.Proofs.YtkhgeonlohafgaaGreatDoor.Core
open Go.RowKit Go.Proofs.YtkhgeonlohafgaaGreatDoorW.PrintWords
def SD (G C R : Nat) (x : Int) (w' : World) : Prop := w'.cell? ⟨G, 0, none⟩ = some (.iface 83 (.pointer (some ⟨C, 0, none⟩))) ∧ w'.cell? ⟨R, 0, none⟩ = some (.int .u64 0) ∧ w'.cell? ⟨R, 1, none⟩ = some (.int .i64 x) ∧ w'.cell? ⟨R, 2, none⟩ = some (.pointer none)
theorem SD.set {G C R j : Nat} {x : Int} {w : World} {v : Value} (hCG : C ≠ G) (hCR : C ≠ R) (h : SD G C R x w) : SD G C R x (w.setCell ⟨C, j, none⟩ v) :=
  ⟨(set_other (fun h => hCG (congrArg Addr.block h))).trans h.1, (set_other (fun h => hCR (congrArg Addr.block h))).trans h.2.1, (set_other (fun h => hCR (congrArg Addr.block h))).trans h.2.2.1, (set_other (fun h => hCR (congrArg Addr.block h))).trans h.2.2.2⟩
theorem SD.alloc {G C R : Nat} {x : Int} {w : World} (o : Obj) (h : SD G C R x w) : SD G C R x (w.alloc o) :=
  have hb : Below w.heap.size w (w.alloc o) := (Below.refl _ _).alloc (Nat.le_refl _) o
  ⟨cell_after hb h.1, cell_after hb h.2.1, cell_after hb h.2.2.1, cell_after hb h.2.2.2⟩
end Go.Proofs.YtkhgeonlohafgaaGreatDoor.Core
namespace Go.Proofs.YtkhgeonlohafgaaGreatDoor.Core
open Go.RowKit Go.Proofs.YtkhgeonlohafgaaGreatDoorW.PrintWords
end Go.Proofs.YtkhgeonlohafgaaGreatDoor.Core
namespace Go.Proofs.YtkhgeonlohafgaaGreatDoor.Core
open Go.RowKit
def DueC (t : ByteArray) (y mo d h mi s : Int) (b ok : Bool) : Prop := ∀ w, Calls Tryz.prog 24 #[.string t, .agg #[.int .i64 y, .int .i64 mo, .int .i64 d, .int .i64 h, .int .i64 mi, .int .i64 s]] w fun e w' => e = .returned (.tuple #[.bool b, .bool ok]) ∧ Below w.heap.size w w'
open Classical in
noncomputable def impl_Due.f (t : ByteArray) (y mo d h mi s : Int) : Option (Bool × Bool) :=
  if hx : ∃ p : Bool × Bool, DueC t y mo d h mi s p.1 p.2 then some (Classical.choose hx) else none
theorem DueC.eq {t : ByteArray} {y mo d h mi s : Int} {b ok : Bool} (hd : DueC t y mo d h mi s b ok) : impl_Due.f t y mo d h mi s = some (b, ok) := by
  have hx : ∃ p : Bool × Bool, DueC t y mo d h mi s p.1 p.2 := ⟨(b, ok), hd⟩
  unfold impl_Due.f
  rw [dif_pos hx]
  have hp := Classical.choose_spec hx
  have e := calls_one (hp default) (hd default) (by kernel_rfl)
  injection e with e
  generalize Classical.choose hx = p at e
  obtain ⟨p1, p2⟩ := p
  simp at e
  rw [e.1, e.2]
end Go.Proofs.YtkhgeonlohafgaaGreatDoor.Core
namespace Go.Proofs.YtkhgeonlohafgaaGreatDoor.Core
open Go.RowKit Go.Proofs.YtkhgeonlohafgaaGreatDoorW.PrintWords
def SM (n : Nat) (y mo d h mi s : Int) (w' : World) : Prop := n < w'.heap.size ∧ w'.cell? ⟨n, 0, none⟩ = some (.int .i64 y) ∧ w'.cell? ⟨n, 1, none⟩ = some (.int .i64 mo) ∧ w'.cell? ⟨n, 2, none⟩ = some (.int .i64 d) ∧ w'.cell? ⟨n, 3, none⟩ = some (.int .i64 h) ∧ w'.cell? ⟨n, 4, none⟩ = some (.int .i64 mi) ∧ w'.cell? ⟨n, 5, none⟩ = some (.int .i64 s)
theorem SM.below {n B : Nat} {y mo d h mi s : Int} {a b : World} (hb : Below B a b) (hn : n < B) (hS : SM n y mo d h mi s a) : SM n y mo d h mi s b := by
  have hk := fun j v (e : a.cell? ⟨n, j, none⟩ = some v) => (show b.cell? ⟨n, j, none⟩ = some v by rw [← e]; simp only [World.cell?, hb.block n hn])
  obtain ⟨h0, h1, h2, h3, h4, h5, h6⟩ := hS
  exact ⟨Nat.lt_of_lt_of_le h0 hb.size, hk _ _ h1, hk _ _ h2, hk _ _ h3, hk _ _ h4, hk _ _ h5, hk _ _ h6⟩
theorem SM.step {n : Nat} {y mo d h mi s : Int} {a b : World} (hb : Below a.heap.size a b) (hS : SM n y mo d h mi s a) : SM n y mo d h mi s b := SM.below hb hS.1 hS
theorem SM.lt {n : Nat} {y mo d h mi s : Int} {a : World} (hS : SM n y mo d h mi s a) : n < a.heap.size := hS.1
end Go.Proofs.YtkhgeonlohafgaaGreatDoor.Core
namespace Go.Proofs.YtkhgeonlohafgaaGreatDoor.Core
open Go.RowKit Go.Proofs.YtkhgeonlohafgaaGreatDoorW.PrintWords
theorem offC_of (c : Nat) (val : Int) (pos : Nat) (o : ByteArray) (b : Bool) (h : ∀ a, Ev (fun k => gronx_SegmentChecker_isOffsetDue.f k a o val (pos : Int)) (b, none)) : OffC c val pos o b false := by
  intro w
  obtain ⟨k, hk⟩ := (h (some ⟨c, 0, none⟩)).rounds
  refine (gronx_SegmentChecker_isOffsetDue.calls k _ _ _ _ b none w hk).mono ?_
  rintro e w' ⟨rfl, hb⟩
  exact ⟨_, rfl, .inl ⟨rfl, errW_none⟩, hb⟩
theorem dueL_items (c : Nat) (i : Nat) (hi : i < 6) (l : List It) (hg : ∀ x ∈ l, goodItem i x = true) (n : Int) (n0 : lowI i ≤ n) (n1 : n ≤ highI i) : DueL c n i (l.map fun x => B (itemL x)) (hasF i l n) false := by
  induction l with
  | nil => exact ⟨rfl, rfl⟩
  | cons x t ih =>
    refine ⟨hasIt i x n, false, offC_of c n i _ _ (fun a => off_item a i hi x (hg x (by simp)) n n0 n1), ?_⟩
    have hcons : hasF i (x :: t) n = (hasIt i x n || hasF i t n) := rfl
    rw [hcons]
    cases hb : hasIt i x n with
    | true => rw [if_pos (Or.inl rfl)]; exact ⟨rfl, rfl⟩
    | false => rw [if_neg (by simp), Bool.false_or]; exact ih (fun y hy => hg y (by simp [hy]))
theorem ev_all {α β : Type} (l : List α) (F : α → Nat → Option β) (r : α → β) (h : ∀ a ∈ l, Ev (F a) (r a)) : ∃ K, ∀ k, K ≤ k → ∀ a ∈ l, F a k = some (r a) := by
  induction l with
  | nil => exact ⟨0, fun _ _ _ ha => by cases ha⟩
  | cons x t ih =>
    obtain ⟨K, hK⟩ := ih (fun a ha => h a (by simp [ha]))
    obtain ⟨L, hL⟩ := h x (by simp)
    refine ⟨max K L, fun k hk a ha => ?_⟩
    rcases List.mem_cons.1 ha with rfl | ha
    · exact hL k (by omega)
    · exact hK k (by omega) a ha
theorem itemL_chars (x : It) : ∀ b ∈ itemL x, b = 42 ∨ b = 45 ∨ b = 47 ∨ (48 ≤ b.toNat ∧ b.toNat ≤ 57) := by
  have hs : ∀ b ∈ stepL x.f3, b = 42 ∨ b = 45 ∨ b = 47 ∨ (48 ≤ b.toNat ∧ b.toNat ≤ 57) := by
    intro b hb
    unfold stepL at hb
    split at hb
    · rcases List.mem_cons.1 hb with h | h
      · exact .inr (.inr (.inl h))
      · exact .inr (.inr (.inr (decN_digit _ b h)))
    · cases hb
  intro b hb
  unfold itemL at hb
  split at hb
  · rcases List.mem_cons.1 hb with h | h
    · exact .inl h
    · exact hs b h
  · rcases List.mem_append.1 hb with h | h
    · exact .inr (.inr (.inr (decN_digit _ b h)))
    · rcases List.mem_append.1 h with h | h
      · split at h
        · rcases List.mem_cons.1 h with h | h
          · exact .inr (.inl h)
          · exact .inr (.inr (.inr (decN_digit _ b h)))
        · cases h
      · exact hs b h
theorem itemL_not (x : It) (c : UInt8) (h1 : c ≠ 42) (h2 : c ≠ 45) (h3 : c ≠ 47) (h4 : c.toNat < 48 ∨ 57 < c.toNat) : c ∉ itemL x := fun e => by
  rcases itemL_chars x c e with h | h | h | h
  · exact h1 h
  · exact h2 h
  · exact h3 h
  · omega
theorem segA_parts {x y mo d h mi s : Int} (M : Moment' x y mo d h mi s) (pos : Nat) (hp : pos < 7) (P : List (List UInt8)) (hne : P ≠ []) (h44 : ∀ p ∈ P, 44 ∉ p) (hl : (joinL 44 P).length < 1000000) (hn : P.length < 1000000) (hm : ∀ p ∈ P, p.length < 1000000 ∧ ∀ b ∈ p, b ≠ 76 ∧ b ≠ 87 ∧ b ≠ 35)
    (b er : Bool) (hD : ∀ c, DueL c (posV y mo d h mi s pos) pos (P.map B) b er) : SegA x (B (joinL 44 P)) pos b er := by
  have hs := zzSplit_ev 44 (joinL 44 P) (by omega)
  rw [splitL_join 44 P hne h44] at hs
  obtain ⟨K1, hK1⟩ := hs
  obtain ⟨K2, hK2⟩ := ev_all P (fun p k => gronx_zzContainsAny.f k (B p) (B [76, 87, 35])) (fun _ => false) (fun p hp => by
    have := any_ev p [76, 87, 35] (by have := (hm p hp).1; omega) (by simp)
    rw [show (p.any fun b => ([76, 87, 35] : List UInt8).contains b) = false by
      rw [List.any_eq_false]
      intro b hb
      have := (hm p hp).2 b hb
      simp [this.1, this.2.1, this.2.2]] at this
    exact this)
  refine segA_of M _ pos hp (max K1 K2) (P.map B) (hK1 _ (by omega)) (by rw [List.length_map]; exact hn) (fun _ o ho => ?_) b er hD
  obtain ⟨p, hp, rfl⟩ := List.mem_map.1 ho
  exact hK2 _ (by omega) p hp
theorem posV_range {y mo d h mi s : Int} (hd : DateOk y mo d) (hc : ClockOk h mi s) (i : Nat) (hi : i < 6) : lowI i ≤ posV y mo d h mi s i ∧ posV y mo d h mi s i ≤ highI i := by
  have h31 := (daysI_cases y mo hd.m0 hd.m1).1
  have := hd.d1
  have hw0 : 0 ≤ wdI y mo d := Int.emod_nonneg _ (by decide)
  have hw1 : wdI y mo d < 7 := Int.emod_lt_of_pos _ (by decide)
  match i, hi with
  | 0, _ => exact ⟨hc.s0, hc.s1⟩
  | 1, _ => exact ⟨hc.m0, hc.m1⟩
  | 2, _ => exact ⟨hc.h0, hc.h1⟩
  | 3, _ => exact ⟨hd.d0, by show d ≤ 31; omega⟩
  | 4, _ => exact ⟨hd.m0, hd.m1⟩
  | 5, _ => exact ⟨hw0, by show wdI y mo d ≤ 6; omega⟩
theorem items_small {i : Nat} {l : List It} (hg : goodF i l = true) : (∀ p ∈ l.map itemL, p.length < 1000000 ∧ ∀ b ∈ p, b ≠ 76 ∧ b ≠ 87 ∧ b ≠ 35) ∧ (∀ p ∈ l.map itemL, 44 ∉ p) ∧ l.map itemL ≠ [] ∧ (l.map itemL).length < 1000000 := by
  obtain ⟨h1, h2, h3⟩ := goodF_spec hg
  refine ⟨fun p hp => ?_, fun p hp => ?_, ?_, by rw [List.length_map]; omega⟩
  · obtain ⟨x, hx, rfl⟩ := List.mem_map.1 hp
    have := itemL_length (h1 x hx)
    refine ⟨by omega, fun b hb => ⟨fun e => ?_, fun e => ?_, fun e => ?_⟩⟩ <;> subst e
    · exact itemL_not x _ (by decide) (by decide) (by decide) (by decide) hb
    · exact itemL_not x _ (by decide) (by decide) (by decide) (by decide) hb
    · exact itemL_not x _ (by decide) (by decide) (by decide) (by decide) hb
  · obtain ⟨x, hx, rfl⟩ := List.mem_map.1 hp
    exact itemL_not x 44 (by decide) (by decide) (by decide) (by decide)
  · intro e
    have := congrArg List.length e
    simp at this
    subst this
    simp at h2
theorem segA_field {x y mo d h mi s : Int} (M : Moment' x y mo d h mi s) (i : Nat) (hi : i < 6) (l : List It) (hg : goodF i l = true) : SegA x (B (fieldL l)) i (hasF i l (posV y mo d h mi s i)) false := by
  obtain ⟨q1, q2, q3, q4⟩ := items_small hg
  have hl := fieldL_length hg
  obtain ⟨v0, v1⟩ := posV_range M.date M.clock i hi
  refine segA_parts M i (by omega) (l.map itemL) q3 q2 (by show (fieldL l).length < _; omega) q4 q1 _ false (fun c => ?_)
  rw [List.map_map]
  exact dueL_items c i hi l (goodF_spec hg).1 _ v0 v1
theorem item_syn (x : It) : SynOk (itemL x) := by
  refine ⟨itemL_ne x, fun h47 => ?_⟩
  have hdno : ∀ n, (47 : UInt8) ∉ decN n := fun n => dec_no n 47 (by decide)
  unfold itemL stepL at h47 ⊢
  by_cases hs : 1 < x.f3
  · rw [if_pos hs] at h47 ⊢
    cases h0 : x.f0 with
    | true => exact ⟨[42], decN x.f3.toNat, by simp, by simp, hdno _, decN_ne _⟩
    | false => exact ⟨decN x.f1.toNat ++ 45 :: decN x.f2.toNat, decN x.f3.toNat, by simp [hs], by simp [hdno], hdno _, decN_ne _⟩
  · exfalso
    rw [if_neg hs] at h47
    cases h0 : x.f0 with
    | true => rw [h0] at h47; simp at h47
    | false =>
      rw [h0] at h47
      by_cases hq : x.f1 < x.f2
      · simp [hs, hq, hdno] at h47
      · simp [hs, hq, hdno] at h47
theorem syntax_fields (Fs : List (List It)) (hF : GoodFs Fs) : Ev (fun k => gronx_isSyntaxValid.f k (Fs.map fun f => B (fieldL f))) true := by
  have h := syntax_ev (Fs.map fun f => f.map itemL) (fun P hP => by
    obtain ⟨f, hf, rfl⟩ := List.mem_map.1 hP
    obtain ⟨j, hj, e⟩ := List.mem_iff_getElem.1 hf
    have hg := hF.2 j hj
    rw [e] at hg
    obtain ⟨q1, q2, q3, q4⟩ := items_small hg
    refine ⟨q3, q4, by have := fieldL_length hg; show (fieldL f).length < _; omega, fun p hp => ⟨q2 p hp, ?_, (q1 p hp).1⟩⟩
    obtain ⟨x, _, rfl⟩ := List.mem_map.1 hp
    exact item_syn x) (by rw [List.length_map, hF.1]; decide)
  rw [List.map_map] at h
  exact h
theorem validL_all (x : Int) (l : List ByteArray) : ∀ (p : Nat) (bs : Nat → Bool), (∀ (j : Nat) (hj : j < l.length), SegA x l[j] (p + j) (bs j) false) → ValidL x p l true := by
  induction l with
  | nil => intro p bs _; exact rfl
  | cons s t ih =>
    intro p bs hb
    refine ⟨bs 0, false, hb 0 (by simp), ?_⟩
    rw [if_neg (by simp)]
    refine ih (p + 1) (fun j => bs (j + 1)) (fun j hj => ?_)
    have := hb (j + 1) (by simpa using hj)
    rw [show p + 1 + j = p + (j + 1) by omega]
    exact this
end Go.Proofs.YtkhgeonlohafgaaGreatDoor.Core
namespace Go.Proofs.YtkhgeonlohafgaaGreatDoor.Core
open Go.RowKit Go.Proofs.YtkhgeonlohafgaaGreatDoorW.PrintWords
end Go.Proofs.YtkhgeonlohafgaaGreatDoor.Core
namespace Go.Proofs.YtkhgeonlohafgaaGreatDoor.Core
open Go.RowKit Go.Proofs.YtkhgeonlohafgaaGreatDoorW.PrintWords
theorem valid_good {Fs : List (List It)} {secs : Bool} (hE : goodE Fs secs = true) {y mo d h mi s : Int} (hd : DateOk y mo d) (hc : ClockOk h mi s) : ValidC (B (textL Fs secs)) y mo d h mi s true := by
  have hF := goodE_fs hE
  have M : Moment' (extOf y mo d h mi s) y mo d h mi s := ⟨hd, hc, rfl⟩
  obtain ⟨K1, hK1⟩ := exprSegments_ev hE
  obtain ⟨K2, hK2⟩ := syntax_fields Fs hF
  refine valid_w hd hc _ true (fun w => isValid_w _ _ (max K1 K2) _ (hK1 _ (by omega)) (by rw [List.length_map, hF.1]; decide) (hK2 _ (by omega)) true ?_ w)
  refine validL_all _ _ 0 (fun q => hasF q (Fs.getD q []) (posV y mo d h mi s q)) (fun q hq => ?_)
  have hqF : q < Fs.length := by simpa using hq
  have hq6 : q < 6 := by rw [← hF.1]; exact hqF
  have hg := hF.2 q hqF
  have hget : Fs.getD q [] = Fs[q] := by simp [List.getD, hqF]
  rw [Nat.zero_add, List.getElem_map, hget]
  exact segA_field M q hq6 _ hg
end Go.Proofs.YtkhgeonlohafgaaGreatDoor.Core
namespace Go.Proofs.YtkhgeonlohafgaaGreatDoor.Core
open Go.RowKit Go.Proofs.YtkhgeonlohafgaaGreatDoorW.PrintWords
set_option maxRecDepth 100000 in
set_option maxHeartbeats 2000000 in
theorem mg_5 (y mo d h mi s : Int) (a0 : 1990 ≤ y) (a1 : y ≤ 2090) (a2 : 1 ≤ mo) (a3 : mo ≤ 12) (a4 : 1 ≤ d) (a5 : ¬ d ≤ daysI y mo) : GoodC y mo d h mi s false := by
  intro w
  have hdy := Aside0.mk (days_some y mo (by omega) a2 a3)
  replace a5 : (d ≤ daysI y mo) = False := eq_false a5
  go_enter Tryz.func12, Tryz.ntmps12
  go_wp2
  go_quiet (first | (go_at_call 29; exact days_quiet y mo hdy.out _ _))
  go_wp2
  go_ret
  exact ⟨rfl, by repeat (first | exact Below.refl _ _ | apply below_alloc | apply below_drew1 | apply pw_below_drewN)⟩
set_option maxRecDepth 100000 in
set_option maxHeartbeats 2000000 in
theorem mg_6 (y mo d h mi s : Int) (a0 : 1990 ≤ y) (a1 : y ≤ 2090) (a2 : 1 ≤ mo) (a3 : mo ≤ 12) (a4 : 1 ≤ d) (a5 : d ≤ daysI y mo) (a6 : ¬ 0 ≤ h) : GoodC y mo d h mi s false := by
  intro w
  have hdy := Aside0.mk (days_some y mo (by omega) a2 a3)
  replace a6 : (0 ≤ h) = False := eq_false a6
  go_enter Tryz.func12, Tryz.ntmps12
  go_wp2
  go_quiet (first | (go_at_call 29; exact days_quiet y mo hdy.out _ _))
  go_wp2
  go_ret
  exact ⟨rfl, by repeat (first | exact Below.refl _ _ | apply below_alloc | apply below_drew1 | apply pw_below_drewN)⟩
end Go.Proofs.YtkhgeonlohafgaaGreatDoor.Core
namespace Go.Proofs.YtkhgeonlohafgaaGreatDoor.Core
open Go.RowKit Go.Proofs.YtkhgeonlohafgaaGreatDoorW.PrintWords
set_option maxRecDepth 100000 in
set_option maxHeartbeats 2000000 in
theorem mg_7 (y mo d h mi s : Int) (a0 : 1990 ≤ y) (a1 : y ≤ 2090) (a2 : 1 ≤ mo) (a3 : mo ≤ 12) (a4 : 1 ≤ d) (a5 : d ≤ daysI y mo) (a6 : 0 ≤ h) (a7 : ¬ h ≤ 23) : GoodC y mo d h mi s false := by
  intro w
  have hdy := Aside0.mk (days_some y mo (by omega) a2 a3)
  replace a7 : (h ≤ 23) = False := eq_false a7
  go_enter Tryz.func12, Tryz.ntmps12
  go_wp2
  go_quiet (first | (go_at_call 29; exact days_quiet y mo hdy.out _ _))
  go_wp2
  go_ret
  exact ⟨rfl, by repeat (first | exact Below.refl _ _ | apply below_alloc | apply below_drew1 | apply pw_below_drewN)⟩
set_option maxRecDepth 100000 in
set_option maxHeartbeats 2000000 in
theorem mg_8 (y mo d h mi s : Int) (a0 : 1990 ≤ y) (a1 : y ≤ 2090) (a2 : 1 ≤ mo) (a3 : mo ≤ 12) (a4 : 1 ≤ d) (a5 : d ≤ daysI y mo) (a6 : 0 ≤ h) (a7 : h ≤ 23) (a8 : ¬ 0 ≤ mi) : GoodC y mo d h mi s false := by
  intro w
  have hdy := Aside0.mk (days_some y mo (by omega) a2 a3)
  replace a8 : (0 ≤ mi) = False := eq_false a8
  go_enter Tryz.func12, Tryz.ntmps12
  go_wp2
  go_quiet (first | (go_at_call 29; exact days_quiet y mo hdy.out _ _))
  go_wp2
  go_ret
  exact ⟨rfl, by repeat (first | exact Below.refl _ _ | apply below_alloc | apply below_drew1 | apply pw_below_drewN)⟩
end Go.Proofs.YtkhgeonlohafgaaGreatDoor.Core
namespace Go.Proofs.YtkhgeonlohafgaaGreatDoor.Core
open Go.RowKit Go.Proofs.YtkhgeonlohafgaaGreatDoorW.PrintWords
set_option maxRecDepth 100000 in
set_option maxHeartbeats 2000000 in
theorem mg_9 (y mo d h mi s : Int) (a0 : 1990 ≤ y) (a1 : y ≤ 2090) (a2 : 1 ≤ mo) (a3 : mo ≤ 12) (a4 : 1 ≤ d) (a5 : d ≤ daysI y mo) (a6 : 0 ≤ h) (a7 : h ≤ 23) (a8 : 0 ≤ mi) (a9 : ¬ mi ≤ 59) : GoodC y mo d h mi s false := by
  intro w
  have hdy := Aside0.mk (days_some y mo (by omega) a2 a3)
  replace a9 : (mi ≤ 59) = False := eq_false a9
  go_enter Tryz.func12, Tryz.ntmps12
  go_wp2
  go_quiet (first | (go_at_call 29; exact days_quiet y mo hdy.out _ _))
  go_wp2
  go_ret
  exact ⟨rfl, by repeat (first | exact Below.refl _ _ | apply below_alloc | apply below_drew1 | apply pw_below_drewN)⟩
set_option maxRecDepth 100000 in
set_option maxHeartbeats 2000000 in
theorem mg_10 (y mo d h mi s : Int) (a0 : 1990 ≤ y) (a1 : y ≤ 2090) (a2 : 1 ≤ mo) (a3 : mo ≤ 12) (a4 : 1 ≤ d) (a5 : d ≤ daysI y mo) (a6 : 0 ≤ h) (a7 : h ≤ 23) (a8 : 0 ≤ mi) (a9 : mi ≤ 59) (a10 : ¬ 0 ≤ s) : GoodC y mo d h mi s false := by
  intro w
  have hdy := Aside0.mk (days_some y mo (by omega) a2 a3)
  replace a10 : (0 ≤ s) = False := eq_false a10
  go_enter Tryz.func12, Tryz.ntmps12
  go_wp2
  go_quiet (first | (go_at_call 29; exact days_quiet y mo hdy.out _ _))
  go_wp2
  go_ret
  exact ⟨rfl, by repeat (first | exact Below.refl _ _ | apply below_alloc | apply below_drew1 | apply pw_below_drewN)⟩
end Go.Proofs.YtkhgeonlohafgaaGreatDoor.Core
namespace Go.Proofs.YtkhgeonlohafgaaGreatDoor.Core
open Go.RowKit Go.Proofs.YtkhgeonlohafgaaGreatDoorW.PrintWords
set_option maxRecDepth 100000 in
set_option maxHeartbeats 2000000 in
theorem mg_11 (y mo d h mi s : Int) (a0 : 1990 ≤ y) (a1 : y ≤ 2090) (a2 : 1 ≤ mo) (a3 : mo ≤ 12) (a4 : 1 ≤ d) (a5 : d ≤ daysI y mo) (a6 : 0 ≤ h) (a7 : h ≤ 23) (a8 : 0 ≤ mi) (a9 : mi ≤ 59) (a10 : 0 ≤ s) (a11 : ¬ s ≤ 59) : GoodC y mo d h mi s false := by
  intro w
  have hdy := Aside0.mk (days_some y mo (by omega) a2 a3)
  replace a11 : (s ≤ 59) = False := eq_false a11
  go_enter Tryz.func12, Tryz.ntmps12
  go_wp2
  go_quiet (first | (go_at_call 29; exact days_quiet y mo hdy.out _ _))
  go_wp2
  go_ret
  exact ⟨rfl, by repeat (first | exact Below.refl _ _ | apply below_alloc | apply below_drew1 | apply pw_below_drewN)⟩
set_option maxRecDepth 100000 in
set_option maxHeartbeats 2000000 in
theorem mg_12 (y mo d h mi s : Int) (a0 : 1990 ≤ y) (a1 : y ≤ 2090) (a2 : 1 ≤ mo) (a3 : mo ≤ 12) (a4 : 1 ≤ d) (a5 : d ≤ daysI y mo) (a6 : 0 ≤ h) (a7 : h ≤ 23) (a8 : 0 ≤ mi) (a9 : mi ≤ 59) (a10 : 0 ≤ s) (a11 : s ≤ 59) : GoodC y mo d h mi s true := by
  intro w
  have hdy := Aside0.mk (days_some y mo (by omega) a2 a3)
  go_enter Tryz.func12, Tryz.ntmps12
  go_wp2
  go_quiet (first | (go_at_call 29; exact days_quiet y mo hdy.out _ _))
  go_wp2
  go_ret
  exact ⟨rfl, by repeat (first | exact Below.refl _ _ | apply below_alloc | apply below_drew1 | apply pw_below_drewN)⟩
end Go.Proofs.YtkhgeonlohafgaaGreatDoor.Core
namespace Go.Proofs.YtkhgeonlohafgaaGreatDoor.Core
open Go.RowKit Go.Proofs.YtkhgeonlohafgaaGreatDoorW.PrintWords
theorem goodM_eq (y mo d h mi s : Int) : spec_MomentGood.f y mo d h mi s = some (goodM y mo d h mi s) := by
  unfold goodM
  by_cases b0 : ¬ 1990 ≤ y
  · rw [(mg_0 y mo d h mi s b0).eq, decide_eq_false (fun e => b0 e.1)]
  have a0 : 1990 ≤ y := Decidable.of_not_not b0
  by_cases b1 : ¬ y ≤ 2090
  · rw [(mg_1 y mo d h mi s a0 b1).eq, decide_eq_false (fun e => b1 e.2.1)]
  have a1 : y ≤ 2090 := Decidable.of_not_not b1
  by_cases b2 : ¬ 1 ≤ mo
  · rw [(mg_2 y mo d h mi s a0 a1 b2).eq, decide_eq_false (fun e => b2 e.2.2.1)]
  have a2 : 1 ≤ mo := Decidable.of_not_not b2
  by_cases b3 : ¬ mo ≤ 12
  · rw [(mg_3 y mo d h mi s a0 a1 a2 b3).eq, decide_eq_false (fun e => b3 e.2.2.2.1)]
  have a3 : mo ≤ 12 := Decidable.of_not_not b3
  by_cases b4 : ¬ 1 ≤ d
  · rw [(mg_4 y mo d h mi s a0 a1 a2 a3 b4).eq, decide_eq_false (fun e => b4 e.2.2.2.2.1)]
  have a4 : 1 ≤ d := Decidable.of_not_not b4
  by_cases b5 : ¬ d ≤ daysI y mo
  · rw [(mg_5 y mo d h mi s a0 a1 a2 a3 a4 b5).eq, decide_eq_false (fun e => b5 e.2.2.2.2.2.1)]
  have a5 : d ≤ daysI y mo := Decidable.of_not_not b5
  by_cases b6 : ¬ 0 ≤ h
  · rw [(mg_6 y mo d h mi s a0 a1 a2 a3 a4 a5 b6).eq, decide_eq_false (fun e => b6 e.2.2.2.2.2.2.1)]
  have a6 : 0 ≤ h := Decidable.of_not_not b6
  by_cases b7 : ¬ h ≤ 23
  · rw [(mg_7 y mo d h mi s a0 a1 a2 a3 a4 a5 a6 b7).eq, decide_eq_false (fun e => b7 e.2.2.2.2.2.2.2.1)]
  have a7 : h ≤ 23 := Decidable.of_not_not b7
  by_cases b8 : ¬ 0 ≤ mi
  · rw [(mg_8 y mo d h mi s a0 a1 a2 a3 a4 a5 a6 a7 b8).eq, decide_eq_false (fun e => b8 e.2.2.2.2.2.2.2.2.1)]
  have a8 : 0 ≤ mi := Decidable.of_not_not b8
  by_cases b9 : ¬ mi ≤ 59
  · rw [(mg_9 y mo d h mi s a0 a1 a2 a3 a4 a5 a6 a7 a8 b9).eq, decide_eq_false (fun e => b9 e.2.2.2.2.2.2.2.2.2.1)]
  have a9 : mi ≤ 59 := Decidable.of_not_not b9
  by_cases b10 : ¬ 0 ≤ s
  · rw [(mg_10 y mo d h mi s a0 a1 a2 a3 a4 a5 a6 a7 a8 a9 b10).eq, decide_eq_false (fun e => b10 e.2.2.2.2.2.2.2.2.2.2.1)]
  have a10 : 0 ≤ s := Decidable.of_not_not b10
  by_cases b11 : ¬ s ≤ 59
  · rw [(mg_11 y mo d h mi s a0 a1 a2 a3 a4 a5 a6 a7 a8 a9 a10 b11).eq, decide_eq_false (fun e => b11 e.2.2.2.2.2.2.2.2.2.2.2)]
  have a11 : s ≤ 59 := Decidable.of_not_not b11
  rw [(mg_12 y mo d h mi s a0 a1 a2 a3 a4 a5 a6 a7 a8 a9 a10 a11).eq, decide_eq_true ⟨a0, a1, a2, a3, a4, a5, a6, a7, a8, a9, a10, a11⟩]
end Go.Proofs.YtkhgeonlohafgaaGreatDoor.Core
namespace Go.Proofs.YtkhgeonlohafgaaGreatDoor.Core
open Go.RowKit Go.Proofs.YtkhgeonlohafgaaGreatDoorW.PrintWords
abbrev Ro := S67
def cv (x : Ro) : It := ⟨x.f0, x.f1, x.f2, x.f3⟩
def cvs (raw : List (List Ro)) : List (List It) := raw.map fun l => l.map cv
def fitsB (raw : List (List Ro)) : Bool := decide (raw.length ≤ 2147483647) && raw.all fun l => decide (l.length ≤ 2147483647)
theorem rdRo_at (l : List Ro) (j : Nat) (h : j < l.length) : rd_T67 l (j : Int) = l[j] := by simp [rd_T67, h]
theorem rdRoF_at (l : List (List Ro)) (j : Nat) (h : j < l.length) : rd_L6 l (j : Int) = l[j] := by simp [rd_L6, h]
theorem fits_from (raw : List (List Ro)) (hl : raw.length ≤ 2147483647) :
    ∀ (rest : List (List Ro)) (j : Nat), raw.drop j = rest → j ≤ raw.length → Ev (fun k => laws_zzFits2.l0 k raw (raw.length : Int) (j : Int)) (rest.all fun l => decide (l.length ≤ 2147483647)) := by
  intro rest
  induction rest with
  | nil =>
    intro j hj hjl
    have hlen : raw.length ≤ j := List.drop_eq_nil_iff.1 hj
    refine Ev.done fun k => ?_
    simp only [laws_zzFits2.l0]
    rw [if_neg (by omega)]
    rfl
  | cons x t ih =>
    intro j hj hjl
    have hlt : j < raw.length := by
      rcases Nat.lt_or_ge j raw.length with h | h
      · exact h
      · rw [List.drop_eq_nil_of_le h] at hj; cases hj
    have hx : raw[j] = x := by
      have := List.drop_eq_getElem_cons hlt
      rw [hj] at this
      exact (List.cons.inj this).1.symm
    have ht : raw.drop (j + 1) = t := by rw [← List.drop_drop, hj]; rfl
    have hrd := rdRoF_at raw j hlt
    rw [hx] at hrd
    have hrec := ih (j + 1) ht (by omega)
    rw [List.all_cons]
    by_cases h1 : x.length ≤ 2147483647
    · rw [decide_eq_true h1, Bool.true_and]
      refine Ev.step (f := fun k => laws_zzFits2.l0 k raw (raw.length : Int) ((j + 1 : Nat) : Int)) (fun k => ?_) hrec
      simp only [laws_zzFits2.l0, hrd]
      rw [if_pos (by omega), if_pos (by omega), if_pos (by omega), if_neg (by omega), wrap64_nat j (by omega)]
    · rw [decide_eq_false h1, Bool.false_and]
      refine Ev.done fun k => ?_
      simp only [laws_zzFits2.l0, hrd]
      rw [if_pos (by omega), if_pos (by omega), if_pos (by omega), if_pos (by omega)]
theorem fits2_ev (raw : List (List Ro)) : Ev (fun k => laws_zzFits2.f k raw) (fitsB raw) := by
  unfold fitsB
  by_cases h : raw.length ≤ 2147483647
  · rw [decide_eq_true h, Bool.true_and]
    refine Ev.congr (f := fun k => laws_zzFits2.l0 k raw (raw.length : Int) ((0 : Nat) : Int)) (fun k => ?_) (fits_from raw h raw 0 rfl (Nat.zero_le _))
    unfold laws_zzFits2.f
    rw [if_neg (by omega)]
    rfl
  · rw [decide_eq_false h, Bool.false_and]
    refine Ev.congr (f := fun _ => some false) (fun k => ?_) (Ev.const rfl)
    unfold laws_zzFits2.f
    rw [if_pos (by omega)]
theorem fits1_ev (raw : List (List Ro)) (secs : Bool) : Ev (fun k => laws_zzFits1.f k raw secs) (fitsB raw) := by
  unfold laws_zzFits1.f
  refine Ev.bind (f := fun _ t => if t = true then some true else some false) (fits2_ev raw) (Ev.const ?_)
  cases fitsB raw <;> rfl
theorem fitsB_spec {raw : List (List Ro)} (h : fitsB raw = true) : raw.length ≤ 2147483647 ∧ ∀ l ∈ raw, l.length ≤ 2147483647 := by
  unfold fitsB at h
  simp only [Bool.and_eq_true, decide_eq_true_eq, List.all_eq_true] at h
  exact h
theorem expr_l1 (raw : List (List Ro)) (j : Int) (out : List (List It)) (secs : Bool) (l : List Ro) (hl : l.length ≤ 2147483647) (r : List (List It) × Bool) (ho : out.length < 5864062014805)
    (hn : Ev (fun k => laws_expr.l0 k raw (raw.length : Int) (wrap64 (j + 1)) (out ++ [l.map cv]) secs) r) :
    ∀ (rest : List Ro) (i : Nat), l.drop i = rest → i ≤ l.length → Ev (fun k => laws_expr.l1 k ((l.take i).map cv) raw (raw.length : Int) j l (l.length : Int) (i : Int) out secs) r := by
  intro rest
  induction rest with
  | nil =>
    intro i hi hil
    have hlen : l.length ≤ i := List.drop_eq_nil_iff.1 hi
    refine Ev.step (f := fun k => laws_expr.l0 k raw (raw.length : Int) (wrap64 (j + 1)) (out ++ [l.map cv]) secs) (fun k => ?_) hn
    simp only [laws_expr.l1]
    rw [if_neg (by omega), if_pos ho, List.take_of_length_le hlen]
  | cons x t ih =>
    intro i hi hil
    have hlt : i < l.length := by
      rcases Nat.lt_or_ge i l.length with h | h
      · exact h
      · rw [List.drop_eq_nil_of_le h] at hi; cases hi
    have ht : l.drop (i + 1) = t := by rw [← List.drop_drop, hi]; rfl
    have hrec := ih (i + 1) ht (by omega)
    refine Ev.step (f := fun k => laws_expr.l1 k ((l.take (i + 1)).map cv) raw (raw.length : Int) j l (l.length : Int) ((i + 1 : Nat) : Int) out secs) (fun k => ?_) hrec
    simp only [laws_expr.l1, rdRo_at l i hlt]
    rw [if_pos (by omega), if_pos (by omega), if_pos (by omega), if_pos (by rw [List.length_map, List.length_take]; omega), wrap64_nat i (by omega), List.take_succ_eq_append_getElem hlt, List.map_append]
    rfl
theorem expr_from (raw : List (List Ro)) (secs : Bool) (h : fitsB raw = true) :
    ∀ (rest : List (List Ro)) (j : Nat), raw.drop j = rest → j ≤ raw.length → Ev (fun k => laws_expr.l0 k raw (raw.length : Int) (j : Int) (cvs (raw.take j)) secs) (cvs raw, secs) := by
  obtain ⟨hl, hall⟩ := fitsB_spec h
  intro rest
  induction rest with
  | nil =>
    intro j hj hjl
    have hlen : raw.length ≤ j := List.drop_eq_nil_iff.1 hj
    refine Ev.done fun k => ?_
    simp only [laws_expr.l0]
    rw [if_neg (by omega), List.take_of_length_le hlen]
  | cons x t ih =>
    intro j hj hjl
    have hlt : j < raw.length := by
      rcases Nat.lt_or_ge j raw.length with h | h
      · exact h
      · rw [List.drop_eq_nil_of_le h] at hj; cases hj
    have hx : raw[j] = x := by
      have := List.drop_eq_getElem_cons hlt
      rw [hj] at this
      exact (List.cons.inj this).1.symm
    have ht : raw.drop (j + 1) = t := by rw [← List.drop_drop, hj]; rfl
    have hrd := rdRoF_at raw j hlt
    rw [hx] at hrd
    have hrec := ih (j + 1) ht (by omega)
    have hxl : x.length ≤ 2147483647 := hall x (by rw [← hx]; exact List.getElem_mem hlt)
    have hout : (cvs (raw.take j)).length < 5864062014805 := by unfold cvs; rw [List.length_map, List.length_take]; omega
    have e : cvs (raw.take (j + 1)) = cvs (raw.take j) ++ [x.map cv] := by unfold cvs; rw [List.take_succ_eq_append_getElem hlt, List.map_append, hx]; rfl
    rw [e] at hrec
    have h1 := expr_l1 raw (j : Int) (cvs (raw.take j)) secs x hxl (cvs raw, secs) hout (by rw [wrap64_nat j (by omega)]; exact hrec) x 0 rfl (Nat.zero_le _)
    refine Ev.step (f := fun k => laws_expr.l1 k [] raw (raw.length : Int) (j : Int) x (x.length : Int) 0 (cvs (raw.take j)) secs) (fun k => ?_) h1
    simp only [laws_expr.l0, hrd]
    rw [if_pos (by omega), if_pos (by omega), if_pos (by omega)]
theorem expr_ev (raw : List (List Ro)) (secs : Bool) (h : fitsB raw = true) : Ev (fun k => laws_expr.f k raw secs) (cvs raw, secs) :=
  expr_from raw secs h raw 0 rfl (Nat.zero_le _)
theorem cvs_len {raw : List (List Ro)} (h : fitsB raw = true) : ∀ l ∈ cvs raw, l.length < 4611686018427387904 := by
  intro l hl
  unfold cvs at hl
  obtain ⟨m, hm, rfl⟩ := List.mem_map.1 hl
  have := (fitsB_spec h).2 m hm
  rw [List.length_map]
  omega
end Go.Proofs.YtkhgeonlohafgaaGreatDoor.Core
namespace Go.Proofs.YtkhgeonlohafgaaGreatDoor.Core
open Go.RowKit Go.Proofs.YtkhgeonlohafgaaGreatDoorW.PrintWords
theorem goodM_spec {y mo d h mi s : Int} (hM : goodM y mo d h mi s = true) : DateOk y mo d ∧ ClockOk h mi s := by
  obtain ⟨a0, a1, a2, a3, a4, a5, a6, a7, a8, a9, a10, a11⟩ := of_decide_eq_true hM
  exact ⟨⟨by omega, by omega, a2, a3, a4, a5⟩, ⟨a6, a7, a8, a9, a10, a11⟩⟩
theorem asked_ev (Fs : List (List It)) (secs : Bool) (hl : ∀ l ∈ Fs, l.length < 4611686018427387904) (y mo d h mi s : Int) : Ev (fun k => laws_asked.f k Fs secs y mo d h mi s) (goodE Fs secs && goodM y mo d h mi s) := by
  unfold laws_asked.f
  refine Ev.bind (exprGood_ev Fs secs hl) ?_
  cases goodE Fs secs with
  | false => exact Ev.congr (fun k => if_neg (by simp)) (Ev.now false)
  | true =>
    simp only [if_true, laws_moment.f, Option.bind_some, goodM_eq, Bool.true_and]
    exact Ev.now _
end Go.Proofs.YtkhgeonlohafgaaGreatDoor.Core
namespace Go.Proofs.YtkhgeonlohafgaaGreatDoor.Core
open Go.RowKit Go.Proofs.YtkhgeonlohafgaaGreatDoorW.PrintWords
theorem fnValid_pure (raw : List (List Ro)) (secs : Bool) (y mo d h mi s : Int) : ∃ k, laws_FnValid.f k raw secs y mo d h mi s = some true := by
  refine Ev.rounds (g := fun k => laws_FnValid.f k raw secs y mo d h mi s) ?_
  unfold laws_FnValid.f
  refine Ev.bind (fits1_ev raw secs) ?_
  cases hf : fitsB raw with
  | false => exact Ev.congr (fun k => if_neg (by simp)) (Ev.now true)
  | true =>
    refine Ev.congr (fun k => if_pos rfl) (Ev.bind (expr_ev raw secs hf) (Ev.bind (asked_ev (cvs raw) secs (cvs_len hf) y mo d h mi s) ?_))
    cases hg : goodE (cvs raw) secs && goodM y mo d h mi s with
    | false => exact Ev.congr (fun k => if_neg (by simp)) (Ev.now true)
    | true =>
      simp only [Bool.and_eq_true] at hg
      obtain ⟨hE, hM⟩ := hg
      obtain ⟨hd, hc⟩ := goodM_spec hM
      refine Ev.congr (fun k => if_pos rfl) (Ev.bind (text_ev (cvs raw) secs (goodE_fs hE)) ?_)
      have hv := (valid_good hE hd hc).eq
      simp only [hv, Option.bind_some]
      exact Ev.now true
end Go.Proofs.YtkhgeonlohafgaaGreatDoor.Core
namespace Go.Proofs.YtkhgeonlohafgaaGreatDoor.Core
open Go.RowKit Go.Proofs.YtkhgeonlohafgaaGreatDoorW.PrintWords Go.ChangeShapes Go.WideShapes Go.Deep
set_option maxRecDepth 100000
theorem rows_list {α : Type} {Q : Nat → α → Prop} (n : Nat) (h : ∀ i, i < n → ∃ x, Q i x) : ∃ l : List α, l.length = n ∧ ∀ j p, l[j]? = some p → Q j p := by
  induction n with
  | zero => exact ⟨[], rfl, fun j p hj => by simp at hj⟩
  | succ n ih =>
    obtain ⟨l, hl, hq⟩ := ih (fun i hi => h i (by omega))
    obtain ⟨x, hx⟩ := h n (by omega)
    refine ⟨l ++ [x], by simp [hl], fun j p hj => ?_⟩
    rcases Nat.lt_or_ge j l.length with h1 | h1
    · rw [List.getElem?_append_left h1] at hj
      exact hq j p hj
    · rw [List.getElem?_append_right h1] at hj
      have h2 : j - l.length = 0 := by
        rcases Nat.eq_zero_or_pos (j - l.length) with h3 | h3
        · exact h3
        · rw [List.getElem?_eq_none (by simp; omega)] at hj; cases hj
      rw [h2] at hj
      obtain rfl : x = p := by simpa using hj
      obtain rfl : j = n := by omega
      exact hx
section
variable {H : Type} {enc : TypeId × Value → H} {P : Program} {W : World} {spare : Nat → Bool} {held : Bool}
theorem C_of_trod {α : Type} (d : Kd α) {t e : TypeId} (ht : P.underlying t = some (.slice e)) (hC : P.cellsOf e = d.sz)
    (rd : ∀ (n : Nat) (cs : List Value) y, cs.length = P.cellsOf e → DataW.trod enc P W 0 spare held n e cs = some y → ∃ x, d.K W x cs)
    {n : Nat} {va : Value} {y : DataW H × List MemPlace} (h : DataW.trod enc P W 0 spare held n t [va] = some y) :
    ∃ (A : Option Addr) (c : Nat) (l : List α), va = .slice A l.length c ∧ l.length ≤ c ∧ Kd.C d W A l.length l := by
  rcases open_slice ht h with ⟨h0, _⟩ | ⟨a, len, cap, m, n', D, Pl, hcs, _, hl, hm, hmm, _, hi⟩
  · obtain rfl : va = .slice none 0 0 := by simpa using h0
    exact ⟨none, 0, [], rfl, Nat.le_refl _, rfl, by simp, fun h => absurd h (by simp)⟩
  · obtain rfl : va = .slice (some a) len cap := by simpa using hcs
    have hlm : len ≤ m := by rw [hmm]; split <;> omega
    obtain ⟨l, hll, hq⟩ := rows_list (Q := fun i x => ∃ c, c.length = d.sz ∧ d.K W x c ∧ ∀ j u, c[j]? = some u → W.cell? (a.add (i * d.sz + j)) = some u) len (fun i hi' => by
      obtain ⟨cs', hc, htr⟩ := hi i (by omega)
      obtain ⟨_, hcl, hat⟩ := World.cells?_some hc
      obtain ⟨x, hx⟩ := rd _ _ _ hcl htr
      refine ⟨x, cs', by rw [hcl, hC], hx, fun j u hu => ?_⟩
      have hj : j < cs'.length := (List.getElem?_eq_some_iff.1 hu).1
      have := hat j (by omega)
      rw [Go.Deep.add_add, hC] at this
      rw [this, hu])
    subst hll
    refine ⟨some a, cap, l, rfl, hl, rfl, ?_, fun _ => ⟨a, rfl, fun j p hj => hq j p hj⟩⟩
    unfold maxLen at hm
    omega
end
section
variable {H : Type} {enc : TypeId × Value → H} {W : World} {spare : Nat → Bool} {held : Bool}
theorem cells_item : Tryz.prog.cellsOf 67 = 4 := by kernel_rfl
theorem read_item (n : Nat) (cs : List Value) (y : DataW H × List MemPlace) (hl : cs.length = Tryz.prog.cellsOf 67) (h : DataW.trod enc Tryz.prog W 0 spare held n 67 cs = some y) : ∃ x, k67.K W x cs := by
  rw [cells_item] at hl
  obtain ⟨y0, y1, y2, y3, m, _, _, h0, h1, h2, h3⟩ := Go.Joins.trod_struct4 Tryz.underlying67 h
  match cs, hl with
  | [c0, c1, c2, c3], _ =>
    rw [show Tryz.prog.cellsOf 4 = 1 by kernel_rfl] at h0
    rw [show Tryz.prog.cellsOf 3 = 1 by kernel_rfl] at h1 h2 h3
    obtain ⟨b, hb, _⟩ := DataW.trod_bool Tryz.underlying4 h0
    obtain ⟨i1, e1, _⟩ := DataW.trod_int Tryz.underlying3 h1
    obtain ⟨i2, e2, _⟩ := DataW.trod_int Tryz.underlying3 h2
    obtain ⟨i3, e3, _⟩ := DataW.trod_int Tryz.underlying3 h3
    obtain rfl : c0 = .bool b := by simpa using hb
    obtain rfl : c1 = .int .i64 i1 := by simpa using e1
    obtain rfl : c2 = .int .i64 i2 := by simpa using e2
    obtain rfl : c3 = .int .i64 i3 := by simpa using e3
    exact ⟨⟨b, i1, i2, i3⟩, k67_mk W ⟨b, i1, i2, i3⟩⟩
theorem read_items (n : Nat) (cs : List Value) (y : DataW H × List MemPlace) (hl : cs.length = Tryz.prog.cellsOf 66) (h : DataW.trod enc Tryz.prog W 0 spare held n 66 cs = some y) : ∃ x, (Kd.slice 67 k67).K W x cs := by
  rw [show Tryz.prog.cellsOf 66 = 1 by kernel_rfl] at hl
  match cs, hl with
  | [c], _ =>
    obtain ⟨A, cap, l, rfl, hlc, hC⟩ := C_of_trod k67 Tryz.underlying66 cells_item read_item h
    exact ⟨l, A, cap, rfl, hlc, hC⟩
theorem read_fields {n : Nat} {va : Value} {y : DataW H × List MemPlace} (h : DataW.trod enc Tryz.prog W 0 spare held n 32 [va] = some y) :
    ∃ (A : Option Addr) (c : Nat) (l : List (List S67)), va = .slice A l.length c ∧ l.length ≤ c ∧ Kd.C (Kd.slice 67 k67) W A l.length l :=
  C_of_trod (Kd.slice 67 k67) Tryz.underlying32 (by kernel_rfl) read_items h
theorem read_expr {v : Value} {d : DataW H} {p : List MemPlace} {r : Reach} {b0 : Nat} (hv : Value.okWide Tryz.prog W r b0 34 v) (h : DataW.Trod enc Tryz.prog W 0 spare held 34 v d p) :
    ∃ (A : Option Addr) (c : Nat) (l : List (List S67)) (b : Bool), v = .agg #[.slice A l.length c, .bool b] ∧ l.length ≤ c ∧ Kd.C (Kd.slice 67 k67) W A l.length l := by
  obtain ⟨cs, rfl, hsz⟩ := okWide_struct Tryz.underlying34 hv
  obtain ⟨cs⟩ := cs
  obtain ⟨fuel, hf⟩ := h
  have hl : cs.length = 2 := hsz.trans (by kernel_rfl)
  obtain ⟨y0, y1, m, _, _, h0, h1⟩ := trod_struct2 Tryz.underlying34 hf
  match cs, hl with
  | [c0, c1], _ =>
    rw [show Tryz.prog.cellsOf 32 = 1 by kernel_rfl] at h0
    rw [show Tryz.prog.cellsOf 4 = 1 by kernel_rfl] at h1
    obtain ⟨A, cap, l, e, hlc, hC⟩ := read_fields (va := c0) (by simpa [Value.cells] using h0)
    obtain ⟨b, hb, _⟩ := DataW.trod_bool Tryz.underlying4 h1
    obtain rfl : c1 = .bool b := by simpa [Value.cells] using hb
    subst e
    exact ⟨A, cap, l, b, rfl, hlc, hC⟩
end
end Go.Proofs.YtkhgeonlohafgaaGreatDoor.Core
namespace Go.Proofs.YtkhgeonlohafgaaGreatDoor.Core
open Go.RowKit Go.Proofs.YtkhgeonlohafgaaGreatDoorW.PrintWords Go.ChangeShapes Go.WideShapes Go.Deep
set_option maxRecDepth 100000
section
variable {H : Type} {enc : TypeId × Value → H} {P : Program} {w : World} {base : Nat} {spare : Nat → Bool} {held : Bool}
theorem list6 {α : Type} {l : List α} (h : l.length = 6) : ∃ c0 c1 c2 c3 c4 c5, l = [c0, c1, c2, c3, c4, c5] := by
  match l, h with
  | [c0, c1, c2, c3, c4, c5], _ => exact ⟨c0, c1, c2, c3, c4, c5, rfl⟩
theorem trod_struct6 {t : TypeId} {f0 f1 f2 f3 f4 f5 : Field} {fuel : Nat} {cs : List Value} {x : DataW H × List MemPlace} (ht : P.underlying t = some (.struct #[f0, f1, f2, f3, f4, f5])) (h : DataW.trod enc P w base spare held fuel t cs = some x) :
    ∃ y0 y1 y2 y3 y4 y5 n, DataW.trod enc P w base spare held n f0.type ((cs.drop f0.offset).take (P.cellsOf f0.type)) = some y0 ∧ DataW.trod enc P w base spare held n f1.type ((cs.drop f1.offset).take (P.cellsOf f1.type)) = some y1 ∧ DataW.trod enc P w base spare held n f2.type ((cs.drop f2.offset).take (P.cellsOf f2.type)) = some y2 ∧
      DataW.trod enc P w base spare held n f3.type ((cs.drop f3.offset).take (P.cellsOf f3.type)) = some y3 ∧ DataW.trod enc P w base spare held n f4.type ((cs.drop f4.offset).take (P.cellsOf f4.type)) = some y4 ∧ DataW.trod enc P w base spare held n f5.type ((cs.drop f5.offset).take (P.cellsOf f5.type)) = some y5 := by
  obtain ⟨xs, n, _, rfl, hl, hlen, hf⟩ := DataW.trod_struct ht h
  obtain ⟨y0, y1, y2, y3, y4, y5, rfl⟩ := list6 (show xs.length = 6 from hlen)
  exact ⟨y0, y1, y2, y3, y4, y5, n, by simpa using hf 0 f0 rfl, by simpa using hf 1 f1 rfl, by simpa using hf 2 f2 rfl, by simpa using hf 3 f3 rfl, by simpa using hf 4 f4 rfl, by simpa using hf 5 f5 rfl⟩
end
section
variable {H : Type} {enc : TypeId × Value → H} {W : World} {spare : Nat → Bool} {held : Bool}
theorem read_moment {v : Value} {d : DataW H} {p : List MemPlace} {r : Reach} {b0 : Nat} (hv : Value.okWide Tryz.prog W r b0 23 v) (h : DataW.Trod enc Tryz.prog W 0 spare held 23 v d p) :
    ∃ y mo d h mi s : Int, v = .agg #[.int .i64 y, .int .i64 mo, .int .i64 d, .int .i64 h, .int .i64 mi, .int .i64 s] := by
  obtain ⟨cs, rfl, hsz⟩ := okWide_struct Tryz.underlying23 hv
  obtain ⟨cs⟩ := cs
  obtain ⟨fuel, hf⟩ := h
  have hl : cs.length = 6 := hsz.trans (by kernel_rfl)
  obtain ⟨y0, y1, y2, y3, y4, y5, m, h0, h1, h2, h3, h4, h5⟩ := trod_struct6 Tryz.underlying23 hf
  obtain ⟨c0, c1, c2, c3, c4, c5, rfl⟩ := list6 hl
  rw [show Tryz.prog.cellsOf 3 = 1 by kernel_rfl] at h0 h1 h2 h3 h4 h5
  obtain ⟨i0, e0, _⟩ := DataW.trod_int Tryz.underlying3 h0
  obtain ⟨i1, e1, _⟩ := DataW.trod_int Tryz.underlying3 h1
  obtain ⟨i2, e2, _⟩ := DataW.trod_int Tryz.underlying3 h2
  obtain ⟨i3, e3, _⟩ := DataW.trod_int Tryz.underlying3 h3
  obtain ⟨i4, e4, _⟩ := DataW.trod_int Tryz.underlying3 h4
  obtain ⟨i5, e5, _⟩ := DataW.trod_int Tryz.underlying3 h5
  obtain rfl : c0 = .int .i64 i0 := by simpa [Value.cells] using e0
  obtain rfl : c1 = .int .i64 i1 := by simpa [Value.cells] using e1
  obtain rfl : c2 = .int .i64 i2 := by simpa [Value.cells] using e2
  obtain rfl : c3 = .int .i64 i3 := by simpa [Value.cells] using e3
  obtain rfl : c4 = .int .i64 i4 := by simpa [Value.cells] using e4
  obtain rfl : c5 = .int .i64 i5 := by simpa [Value.cells] using e5
  exact ⟨i0, i1, i2, i3, i4, i5, rfl⟩
end
end Go.Proofs.YtkhgeonlohafgaaGreatDoor.Core
namespace Go.Proofs.YtkhgeonlohafgaaGreatDoor.FnValidRow
open Go.ChangeShapes Go.WideShapes Go.ChangeAt Go.RowKit Go.Proofs.YtkhgeonlohafgaaGreatDoorW.PrintWords Go.Proofs.YtkhgeonlohafgaaGreatDoor.Core
theorem own : ownKnob Tryz.prog.godebug = none := by kernel_rfl
theorem laidOut : laidOutB Tryz.prog = true := by kernel_rfl
set_option maxRecDepth 100000 in
theorem lifted (os : Os) (started : os.Started) (H : Type) (enc : TypeId × Value → H) :
    ReturnsInHanded {} Tryz.checked os 4 .any (fun w args => (Rows.fnValidSpec.pre enc Tryz.prog Tryz.f4 Rows.fnValidRow.domain false w args ∧ laidMetH Tryz.prog Rows.fnValidRow.laid w) ∧ sizedMet enc Tryz.prog Tryz.f4 (OpenSpec.ofChange Rows.fnValidSpec) false w args)
      (Rows.fnValidSpec.post enc Tryz.prog Tryz.f4 false true false false) := by
  refine returnsInHanded_of_change_and (C := Tryz.checked) (X := fun w _ => laidMetH Tryz.prog Rows.fnValidRow.laid w) (fun _ _ _ hh h => h.of_heap hh) own started (by kernel_rfl) Tryz.func4
    (ChangeSpec.witness_shaped (enc := enc) (C := Tryz.checked) (os := os) (X := fun w _ => laidMetH Tryz.prog Rows.fnValidRow.laid w) false (World.laidAll Tryz.prog os Rows.fnValidRow.laid) #[.agg #[.slice none 0 0, .bool false], .agg #[.int .i64 0, .int .i64 0, .int .i64 0, .int .i64 0, .int .i64 0, .int .i64 0]] 8 (World.laidAll_os _ _ _)
      (World.shaped_of_ZipB (by kernel_rfl) (by kernel_rfl)) (by kernel_rfl) (by kernel_rfl) (by kernel_rfl)
      (by rw [MakeChecks.laidMetH_plain _ _ _ (by kernel_rfl)]; exact laidMet_laidAll _ (by kernel_rfl) (by kernel_rfl))) ?_
  intro W base args ds gs before hval0 hW _ _ _ _
  have hval : ∀ (j : Nat) t v, Tryz.f4.params[j]? = some t → args[j]? = some v → Value.okWide Tryz.prog W .any base t v := hval0
  have hW' := hW
  obtain ⟨p, q, hA0, hV, rfl, _, _⟩ := hW
  have hA : DataW.TrodAll enc Tryz.prog W 0 (fun _ => true) true Tryz.f4.params.toList args.toList ds p := hA0
  rw [Tryz.params4] at hA hval
  obtain ⟨v0, vs0, d0, ds0, p0, q0, hargs, rfl, rfl, h0, r0⟩ := trodAll_cons hA
  obtain ⟨v1, vs1, d1, ds1, p1, q1, rfl, rfl, rfl, h1, r1⟩ := trodAll_cons r0
  obtain ⟨rfl, rfl, rfl⟩ := trodAll_nil r1
  obtain rfl : args = #[v0, v1] := by cases args; simp_all
  obtain ⟨rfl, rfl⟩ := trodVars_none hV
  obtain ⟨A0, c0, l0, b0, rfl, hl0, hC0⟩ := read_expr (hval 0 34 v0 rfl rfl) h0
  obtain ⟨y1, mo1, d'1, hh1, mi1, s1, rfl⟩ := read_moment (hval 1 23 v1 rfl rfl) h1
  have lt0 : ∀ x ∈ p0, x.block < W.heap.size := fun x hx => hW'.lt x (by simp [hx])
  have lt1 : ∀ x ∈ p1, x.block < W.heap.size := fun x hx => hW'.lt x (by simp [hx])
  clear hA0 hval0
  obtain ⟨k, hk⟩ := fnValid_pure l0 b0 y1 mo1 d'1 hh1 mi1 s1
  refine (laws_FnValid.calls k A0 c0 l0 b0 y1 mo1 d'1 hh1 mi1 s1 true W hC0 hl0  hk).mono fun e W' ⟨he, bel⟩ => ?_
  subst he
  exact ⟨_, rfl, _, _, _, [], _, [], hW', trodAll_mk1 (shut_bool Tryz.underlying4 _), (trodAll_cons_mk (Below.trod laidOut (by kernel_rfl) (of_decide_eq_true (by kernel_rfl)) h0 bel lt0) (trodAll_cons_mk (Below.trod laidOut (by kernel_rfl) (of_decide_eq_true (by kernel_rfl)) h1 bel lt1) trodAll_mk0)), rfl, bel.frame _, fun h => by cases h⟩
theorem said : Rows.FnValidSaid :=
  OpenClaim.holds_of_wide 4 Tryz.f4 rfl rfl rfl rfl rfl rfl rfl ⟨rfl, rfl, rfl, rfl, rfl⟩ rfl rfl rfl rfl rfl (by kernel_rfl) Tryz.func4 (by kernel_rfl)
    (of_decide_eq_true (by kernel_rfl)) (by unfold Func.isWrapper; first | (rw [if_pos (by decide +kernel)]; kernel_rfl) | (rw [if_neg (by decide +kernel)]; exact ⟨rfl, rfl⟩))
    (fun os started H enc _ => lifted os started H enc)
theorem plain (f : FuncId) (fn : Func) (hf : Tryz.pinned.checked.prog.funcNamed Rows.fnValidRow.func = some f) (hfn : Tryz.pinned.checked.prog.funcs[f]? = some fn) :
    true = Tryz.pinned.checked.prog.looks [] ∧ ∀ (j : Nat) t, fn.params[j]? = some t → Tryz.pinned.checked.prog.wantsStandIn t = false := by
  obtain rfl : f = 4 := Option.some.inj ((show Tryz.prog.funcNamed Rows.fnValidRow.func = some 4 by kernel_rfl).symm.trans hf) |>.symm
  obtain rfl : fn = Tryz.f4 := (Option.some.inj (Tryz.func4.symm.trans hfn)).symm
  refine ⟨by kernel_rfl, fun j t ht => ?_⟩
  rw [Tryz.params4] at ht
  have hm : t ∈ [34, 23] := by simpa using Array.mem_of_getElem? ht
  have hall : ([34, 23].all fun u => !Tryz.prog.wantsStandIn u) = true := by kernel_rfl
  exact (show Tryz.prog.wantsStandIn t = false by simpa using List.all_eq_true.1 hall t hm)
theorem card : Rows.FnValidCardSaid :=
  Claim7.holds_tied_plain_at .later [] _ _ _ _ said (fun _ h => by cases h) (by kernel_rfl) (fun _ h => by cases h) fnValid_row_tie rfl ⟨rfl, rfl⟩ (by kernel_rfl) rfl plain (by kernel_rfl)
#print axioms card
end Go.Proofs.YtkhgeonlohafgaaGreatDoor.FnValidRow
namespace Go.Proofs.YtkhgeonlohafgaaGreatDoor
theorem fnValid_holds : Rows.FnValidCardSaid := FnValidRow.card
end Go.Proofs.YtkhgeonlohafgaaGreatDoor
