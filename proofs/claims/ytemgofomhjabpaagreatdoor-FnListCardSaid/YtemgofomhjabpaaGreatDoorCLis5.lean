/-
  PROVED: THE CARD OF laws.FnList: for every expression, moment and number that come in, the call returns true, and the arguments read as they did.
  CONDITIONS: the row's own ('laid': tables of Go's library read as the row lists them; the tie is given).
-/
import Derived.Test.YtemgofomhjabpaaGreatDoorCLis1
import Derived.Test.YtemgofomhjabpaaGreatDoorCLis2
import Derived.Test.YtemgofomhjabpaaGreatDoorCLis3
import Derived.Test.YtemgofomhjabpaaGreatDoorCLis4
import Derived.Deep.RegionHeld
import Derived.Deep.LoopGhost
import Derived.Deep.Slices
import Derived.Deep.Fields
import Derived.ChangeSame
import Derived.Lib.SmallJoins
import Derived.WideShapes
import Derived.OpenShut
import Derived.Test.YtemgofomhjabpaaGreatDoorCards
import Derived.Test.YtemgofomhjabpaaGreatDoorTie
import Derived.ProofKit
import Derived.LaidMore
import Derived.Lay
import Derived.SevenTiedAt
import Derived.Carry
namespace Go.Proofs.YtemgofomhjabpaaGreatDoor.Core
open Go.RowKit Go.Proofs.YtemgofomhjabpaaGreatDoorW.PrintWords
def IsStar (s : ByteArray) : Prop := s = ⟨#[42]⟩ ∨ s = ⟨#[63]⟩
def DueR (x : Int) (segs : List ByteArray) : Nat → Bool → Prop
  | 0, r => r = true
  | q + 1, r => (∃ s, segs[q]? = some s ∧ IsStar s ∧ DueR x segs q r) ∨ (∃ s b, segs[q]? = some s ∧ s ≠ ⟨#[42]⟩ ∧ s ≠ ⟨#[63]⟩ ∧ SegA x s q b false ∧ (if b = true then DueR x segs q r else r = false))
theorem toList_ne {s t : ByteArray} (h : s ≠ t) : s.toList ≠ t.toList := fun e => h (by
  have : s.data.toList = t.data.toList := by rw [← Lib.toList_data, ← Lib.toList_data, e]
  cases s; cases t; simp at this; rw [this])
set_option maxRecDepth 100000 in
set_option maxHeartbeats 3000000 in
theorem segmentsDue_w (G C : Nat) (x : Int) (segs : List ByteArray) (k : Nat) (i5 i3 : Int) (h6 : 6 ≤ segs.length) (h7 : segs.length ≤ 7) (h5 : gronx_zzIndex.f k (segs[5]'(by omega)) ⟨#[42, 47]⟩ = some i5) (h3 : gronx_zzIndex.f k (segs[3]'(by omega)) ⟨#[42]⟩ = some i3)
    (hx : IsStar (segs[5]'(by omega)) ∨ i5 = 0 ∨ i3 = 0 ∨ segs[3]'(by omega) = ⟨#[63]⟩) (r : Bool) (hD : DueR x segs segs.length r) : DueW G C x segs r false := by
  intro w A cc hg hc0 hc1 hc2 hR hcc
  have hD := Aside0.mk hD
  have hR := Aside0.mk hR
  have h5 := Aside0.mk h5
  have h3 := Aside0.mk h3
  have hx := Aside0.mk hx
  have hm1 := nil_check
  have hm2 := m_check
  go_enter Tryz.func42, Tryz.ntmps42
  go_wp2
  go_loopg [6, 7] segs.length (fun kq v6 v7 w' => ∃ (j : Nat), v6 = .bool false ∧ v7 = .int .i64 (j : Int) ∧ Aside0 (DueR x segs (segs.length - j) r) ∧ Aside0 (kq + j = segs.length) ∧ Aside0 (Below w.heap.size w w'))
  case atStart => exact ⟨0, rfl, rfl, ⟨hD.out⟩, ⟨rfl⟩, ⟨by repeat (first | exact Below.refl _ _ | apply below_drew1 | apply pw_below_drewN)⟩⟩
  case round =>
    clear hD
    obtain ⟨j, rfl, rfl, HD, HK, HW⟩ := hrel
    by_cases hj : j < segs.length
    · obtain ⟨q, hq⟩ : ∃ q, segs.length = j + 1 + q := ⟨segs.length - 1 - j, by omega⟩
      have hpos : (segs.length : Int) - 1 - (j : Int) = (q : Int) := by omega
      have qj : ((j : Int) < (segs.length : Int)) := by omega
      have ql : ((q : Int) < (segs.length : Int)) := by omega
      have p0 : 0 ≤ (q : Int) := by omega
      have hqn : q < segs.length := by omega
      have h3n : 3 < segs.length := by omega
      obtain ⟨ad, rfl, hx0⟩ := Kd.at_string hR.out (q : Int) p0 ql
      replace hx0 := cell_after HW.out hx0
      rw [rdOf_nat _ _ hqn, Int.toNat_natCast] at hx0
      have gG := cell_after HW.out hg
      have gc0 := Aside0.mk (cell_after HW.out hc0)
      have gc1 := Aside0.mk (cell_after HW.out hc1)
      have gc2 := Aside0.mk (cell_after HW.out hc2)
      have HD' := HD.out
      rw [show segs.length - j = q + 1 by omega] at HD'
      rcases HD' with ⟨s, hs, hst, hr⟩ | ⟨s, b, hs, n42, n63, hA, hif⟩
      · rw [List.getElem?_eq_getElem hqn] at hs
        obtain rfl := Option.some.inj hs
        have hr := Aside0.mk (show DueR x segs (segs.length - (j + 1)) r by rw [show segs.length - (j + 1) = q by omega]; exact hr)
        clear hs
        replace hq := Aside0.mk hq
        rcases hst with hst | hst
        · rw [hst] at hx0
          clear hst
          go_wp2
          go_roundg (gk - 1)
          case measure => have := HK.out; omega
          case rel => exact ⟨j + 1, rfl, by simp, hr, ⟨by have := HK.out; omega⟩, ⟨by repeat (first | exact HW.out | apply below_drew1 | apply pw_below_drewN)⟩⟩
        · rw [hst] at hx0
          clear hst
          go_wp2
          go_roundg (gk - 1)
          case measure => have := HK.out; omega
          case rel => exact ⟨j + 1, rfl, by simp, hr, ⟨by have := HK.out; omega⟩, ⟨by repeat (first | exact HW.out | apply below_drew1 | apply pw_below_drewN)⟩⟩
      · rw [List.getElem?_eq_getElem hqn] at hs
        obtain rfl := Option.some.inj hs
        clear hs
        have hA := Aside0.mk hA
        have hif := Aside0.mk hif
        replace hq := Aside0.mk hq
        have s1 : segs[q].toList ≠ ([42] : List UInt8) := by have := toList_ne n42; rwa [Lib.toList_data (⟨#[42]⟩ : ByteArray)] at this
        have s2 : (segs[q].toList == ([42] : List UInt8)) = false := beq_eq_false_iff_ne.mpr s1
        have s3 : (segs[q].toList == ([63] : List UInt8)) = false := beq_eq_false_iff_ne.mpr (by have := toList_ne n63; rwa [Lib.toList_data (⟨#[63]⟩ : ByteArray)] at this)
        by_cases e5 : q = 5
        · have h5' : Aside0 (gronx_zzIndex.f k segs[q] ⟨#[42, 47]⟩ = some i5) := ⟨by subst e5; exact h5.out⟩
          have h3' := h3
          have hxx : i5 = 0 ∨ i3 = 0 ∨ segs[3] = ⟨#[63]⟩ := by
            rcases hx.out with hx | hx
            · exfalso
              subst e5
              rcases hx with hx | hx
              · exact n42 hx
              · exact n63 hx
            · exact hx
          obtain ⟨ad3, ea, hx3⟩ := Kd.at_string hR.out 3 (by omega) (show (3 : Int) < (segs.length : Int) by omega)
          obtain rfl := Option.some.inj ea
          clear ea
          replace hx3 := cell_after HW.out hx3
          rw [show rdOf ByteArray.empty segs 3 = segs[3] from rdOf_nat segs 3 h3n] at hx3
          rw [show (3 : Int).toNat = 3 from rfl] at hx3
          have hx3' : wr.cell? ⟨ad.block, ad.off + 3, none⟩ = some (.string segs[3]) := hx3
          have b3 : ((q : Int) = 3) = False := by simp; omega
          have b3' : ((q : Int) == 3) = false := by simp; omega
          have b5 : ((q : Int) == 5) = true := by simp; omega
          have b5' : ((q : Int) = 5) = True := by simp; omega
          clear e5 n42 n63
          generalize segs[q] = sq at hx0 hA h5' s1 s2 s3
          generalize segs[3] = t3 at hx3 hx3' h3' hxx
          by_cases z5 : i5 = 0
          · subst z5
            clear hxx
            cases b with
            | true =>
              have hr := Aside0.mk (show DueR x segs (segs.length - (j + 1)) r by rw [show segs.length - (j + 1) = q by have := hq.out; omega]; simpa using hif.out)
              go_wp2_with (first | (go_at_call 50; refine (gronx_zzIndex.calls k _ _ _ _ h5'.out).mono ?_; rintro e wz ⟨rfl, ⟨nd, rfl⟩⟩; clear h5') | (go_at_call 50; refine (gronx_zzIndex.calls k _ _ _ _ h3'.out).mono ?_; rintro e wz ⟨rfl, ⟨nd2, rfl⟩⟩) | (go_at_call 111; refine (hA.out C _ (cell_after (by repeat (first | exact Below.refl _ _ | apply below_drew1 | apply pw_below_drewN)) gc0.out) (cell_after (by repeat (first | exact Below.refl _ _ | apply below_drew1 | apply pw_below_drewN)) gc1.out) (cell_after (by repeat (first | exact Below.refl _ _ | apply below_drew1 | apply pw_below_drewN)) gc2.out)).mono ?_; rintro e w5 ⟨ev, rfl, hev, hb5⟩; obtain rfl := ErrV.nil hev))
              go_roundg (gk - 1)
              case measure => have := HK.out; omega
              case rel => exact ⟨j + 1, rfl, by simp, hr, ⟨by have := HK.out; omega⟩, ⟨by repeat (first | exact below_step (by repeat (first | exact HW.out | apply below_drew1 | apply pw_below_drewN)) hb5 | apply below_drew1 | apply pw_below_drewN)⟩⟩
            | false =>
              obtain rfl : r = false := by simpa using hif.out
              go_wp2_with (first | (go_at_call 50; refine (gronx_zzIndex.calls k _ _ _ _ h5'.out).mono ?_; rintro e wz ⟨rfl, ⟨nd, rfl⟩⟩; clear h5') | (go_at_call 50; refine (gronx_zzIndex.calls k _ _ _ _ h3'.out).mono ?_; rintro e wz ⟨rfl, ⟨nd2, rfl⟩⟩) | (go_at_call 111; refine (hA.out C _ (cell_after (by repeat (first | exact Below.refl _ _ | apply below_drew1 | apply pw_below_drewN)) gc0.out) (cell_after (by repeat (first | exact Below.refl _ _ | apply below_drew1 | apply pw_below_drewN)) gc1.out) (cell_after (by repeat (first | exact Below.refl _ _ | apply below_drew1 | apply pw_below_drewN)) gc2.out)).mono ?_; rintro e w5 ⟨ev, rfl, hev, hb5⟩; obtain rfl := ErrV.nil hev))
              go_ret2
              exact ⟨_, rfl, .inl ⟨rfl, rfl⟩, below_step (by repeat (first | exact HW.out | apply below_drew1 | apply pw_below_drewN)) hb5⟩
          · have z5' : (i5 == 0) = false := beq_eq_false_iff_ne.mpr z5
            by_cases z3 : i3 = 0
            · subst z3
              clear hxx
              cases b with
              | true =>
                have hr := Aside0.mk (show DueR x segs (segs.length - (j + 1)) r by rw [show segs.length - (j + 1) = q by have := hq.out; omega]; simpa using hif.out)
                go_wp2_with (first | (go_at_call 50; refine (gronx_zzIndex.calls k _ _ _ _ h5'.out).mono ?_; rintro e wz ⟨rfl, ⟨nd, rfl⟩⟩; clear h5') | (go_at_call 50; refine (gronx_zzIndex.calls k _ _ _ _ h3'.out).mono ?_; rintro e wz ⟨rfl, ⟨nd2, rfl⟩⟩) | (go_at_call 111; refine (hA.out C _ (cell_after (by repeat (first | exact Below.refl _ _ | apply below_drew1 | apply pw_below_drewN)) gc0.out) (cell_after (by repeat (first | exact Below.refl _ _ | apply below_drew1 | apply pw_below_drewN)) gc1.out) (cell_after (by repeat (first | exact Below.refl _ _ | apply below_drew1 | apply pw_below_drewN)) gc2.out)).mono ?_; rintro e w5 ⟨ev, rfl, hev, hb5⟩; obtain rfl := ErrV.nil hev))
                go_roundg (gk - 1)
                case measure => have := HK.out; omega
                case rel => exact ⟨j + 1, rfl, by simp, hr, ⟨by have := HK.out; omega⟩, ⟨by repeat (first | exact below_step (by repeat (first | exact HW.out | apply below_drew1 | apply pw_below_drewN)) hb5 | apply below_drew1 | apply pw_below_drewN)⟩⟩
              | false =>
                obtain rfl : r = false := by simpa using hif.out
                go_wp2_with (first | (go_at_call 50; refine (gronx_zzIndex.calls k _ _ _ _ h5'.out).mono ?_; rintro e wz ⟨rfl, ⟨nd, rfl⟩⟩; clear h5') | (go_at_call 50; refine (gronx_zzIndex.calls k _ _ _ _ h3'.out).mono ?_; rintro e wz ⟨rfl, ⟨nd2, rfl⟩⟩) | (go_at_call 111; refine (hA.out C _ (cell_after (by repeat (first | exact Below.refl _ _ | apply below_drew1 | apply pw_below_drewN)) gc0.out) (cell_after (by repeat (first | exact Below.refl _ _ | apply below_drew1 | apply pw_below_drewN)) gc1.out) (cell_after (by repeat (first | exact Below.refl _ _ | apply below_drew1 | apply pw_below_drewN)) gc2.out)).mono ?_; rintro e w5 ⟨ev, rfl, hev, hb5⟩; obtain rfl := ErrV.nil hev))
                go_ret2
                exact ⟨_, rfl, .inl ⟨rfl, rfl⟩, below_step (by repeat (first | exact HW.out | apply below_drew1 | apply pw_below_drewN)) hb5⟩
            · have z3' : (i3 == 0) = false := beq_eq_false_iff_ne.mpr z3
              have hs3 : t3 = ⟨#[63]⟩ := by rcases hxx with h | h | h; exact absurd h z5; exact absurd h z3; exact h
              rw [hs3] at hx3 hx3' h3'
              clear hxx
              cases b with
              | true =>
                have hr := Aside0.mk (show DueR x segs (segs.length - (j + 1)) r by rw [show segs.length - (j + 1) = q by have := hq.out; omega]; simpa using hif.out)
                go_wp2_with (first | (go_at_call 50; refine (gronx_zzIndex.calls k _ _ _ _ h5'.out).mono ?_; rintro e wz ⟨rfl, ⟨nd, rfl⟩⟩; clear h5') | (go_at_call 50; refine (gronx_zzIndex.calls k _ _ _ _ h3'.out).mono ?_; rintro e wz ⟨rfl, ⟨nd2, rfl⟩⟩) | (go_at_call 111; refine (hA.out C _ (cell_after (by repeat (first | exact Below.refl _ _ | apply below_drew1 | apply pw_below_drewN)) gc0.out) (cell_after (by repeat (first | exact Below.refl _ _ | apply below_drew1 | apply pw_below_drewN)) gc1.out) (cell_after (by repeat (first | exact Below.refl _ _ | apply below_drew1 | apply pw_below_drewN)) gc2.out)).mono ?_; rintro e w5 ⟨ev, rfl, hev, hb5⟩; obtain rfl := ErrV.nil hev))
                go_roundg (gk - 1)
                case measure => have := HK.out; omega
                case rel => exact ⟨j + 1, rfl, by simp, hr, ⟨by have := HK.out; omega⟩, ⟨by repeat (first | exact below_step (by repeat (first | exact HW.out | apply below_drew1 | apply pw_below_drewN)) hb5 | apply below_drew1 | apply pw_below_drewN)⟩⟩
              | false =>
                obtain rfl : r = false := by simpa using hif.out
                go_wp2_with (first | (go_at_call 50; refine (gronx_zzIndex.calls k _ _ _ _ h5'.out).mono ?_; rintro e wz ⟨rfl, ⟨nd, rfl⟩⟩; clear h5') | (go_at_call 50; refine (gronx_zzIndex.calls k _ _ _ _ h3'.out).mono ?_; rintro e wz ⟨rfl, ⟨nd2, rfl⟩⟩) | (go_at_call 111; refine (hA.out C _ (cell_after (by repeat (first | exact Below.refl _ _ | apply below_drew1 | apply pw_below_drewN)) gc0.out) (cell_after (by repeat (first | exact Below.refl _ _ | apply below_drew1 | apply pw_below_drewN)) gc1.out) (cell_after (by repeat (first | exact Below.refl _ _ | apply below_drew1 | apply pw_below_drewN)) gc2.out)).mono ?_; rintro e w5 ⟨ev, rfl, hev, hb5⟩; obtain rfl := ErrV.nil hev))
                go_ret2
                exact ⟨_, rfl, .inl ⟨rfl, rfl⟩, below_step (by repeat (first | exact HW.out | apply below_drew1 | apply pw_below_drewN)) hb5⟩
        · have b5 : ((q : Int) == 5) = false := by simp; omega
          have b5' : ((q : Int) = 5) = False := by simp; omega
          clear e5 n42 n63
          generalize segs[q] = sq at hx0 hA s1 s2 s3
          by_cases e3 : q = 3
          · have b3 : ((q : Int) = 3) = True := by simp; omega
            have b3' : ((q : Int) == 3) = true := by simp; omega
            clear e3
            cases b with
            | true =>
              have hr := Aside0.mk (show DueR x segs (segs.length - (j + 1)) r by rw [show segs.length - (j + 1) = q by have := hq.out; omega]; simpa using hif.out)
              go_wp2_with (go_at_call 111; refine (hA.out C _ (cell_after (by repeat (first | exact Below.refl _ _ | apply below_drew1 | apply pw_below_drewN)) gc0.out) (cell_after (by repeat (first | exact Below.refl _ _ | apply below_drew1 | apply pw_below_drewN)) gc1.out) (cell_after (by repeat (first | exact Below.refl _ _ | apply below_drew1 | apply pw_below_drewN)) gc2.out)).mono ?_; rintro e w5 ⟨ev, rfl, hev, hb5⟩; obtain rfl := ErrV.nil hev)
              go_roundg (gk - 1)
              case measure => have := HK.out; omega
              case rel => exact ⟨j + 1, rfl, by simp, hr, ⟨by have := HK.out; omega⟩, ⟨by repeat (first | exact below_step (by repeat (first | exact HW.out | apply below_drew1 | apply pw_below_drewN)) hb5 | apply below_drew1 | apply pw_below_drewN)⟩⟩
            | false =>
              obtain rfl : r = false := by simpa using hif.out
              go_wp2_with (go_at_call 111; refine (hA.out C _ (cell_after (by repeat (first | exact Below.refl _ _ | apply below_drew1 | apply pw_below_drewN)) gc0.out) (cell_after (by repeat (first | exact Below.refl _ _ | apply below_drew1 | apply pw_below_drewN)) gc1.out) (cell_after (by repeat (first | exact Below.refl _ _ | apply below_drew1 | apply pw_below_drewN)) gc2.out)).mono ?_; rintro e w5 ⟨ev, rfl, hev, hb5⟩; obtain rfl := ErrV.nil hev)
              go_ret2
              exact ⟨_, rfl, .inl ⟨rfl, rfl⟩, below_step (by repeat (first | exact HW.out | apply below_drew1 | apply pw_below_drewN)) hb5⟩
          · have b3 : ((q : Int) = 3) = False := by simp; omega
            have b3' : ((q : Int) == 3) = false := by simp; omega
            clear e3
            cases b with
            | true =>
              have hr := Aside0.mk (show DueR x segs (segs.length - (j + 1)) r by rw [show segs.length - (j + 1) = q by have := hq.out; omega]; simpa using hif.out)
              go_wp2_with (go_at_call 111; refine (hA.out C _ (cell_after (by repeat (first | exact Below.refl _ _ | apply below_drew1 | apply pw_below_drewN)) gc0.out) (cell_after (by repeat (first | exact Below.refl _ _ | apply below_drew1 | apply pw_below_drewN)) gc1.out) (cell_after (by repeat (first | exact Below.refl _ _ | apply below_drew1 | apply pw_below_drewN)) gc2.out)).mono ?_; rintro e w5 ⟨ev, rfl, hev, hb5⟩; obtain rfl := ErrV.nil hev)
              go_roundg (gk - 1)
              case measure => have := HK.out; omega
              case rel => exact ⟨j + 1, rfl, by simp, hr, ⟨by have := HK.out; omega⟩, ⟨by repeat (first | exact below_step (by repeat (first | exact HW.out | apply below_drew1 | apply pw_below_drewN)) hb5 | apply below_drew1 | apply pw_below_drewN)⟩⟩
            | false =>
              obtain rfl : r = false := by simpa using hif.out
              go_wp2_with (go_at_call 111; refine (hA.out C _ (cell_after (by repeat (first | exact Below.refl _ _ | apply below_drew1 | apply pw_below_drewN)) gc0.out) (cell_after (by repeat (first | exact Below.refl _ _ | apply below_drew1 | apply pw_below_drewN)) gc1.out) (cell_after (by repeat (first | exact Below.refl _ _ | apply below_drew1 | apply pw_below_drewN)) gc2.out)).mono ?_; rintro e w5 ⟨ev, rfl, hev, hb5⟩; obtain rfl := ErrV.nil hev)
              go_ret2
              exact ⟨_, rfl, .inl ⟨rfl, rfl⟩, below_step (by repeat (first | exact HW.out | apply below_drew1 | apply pw_below_drewN)) hb5⟩
    · have qj0 : decide ((j : Int) < (segs.length : Int)) = false := decide_eq_false (by omega)
      have HD' := HD.out
      rw [show segs.length - j = 0 by omega] at HD'
      obtain rfl : r = true := HD'
      go_wp2
      go_ret2
      exact ⟨_, rfl, .inl ⟨rfl, rfl⟩, HW.out⟩
end Go.Proofs.YtemgofomhjabpaaGreatDoor.Core
namespace Go.Proofs.YtemgofomhjabpaaGreatDoor.Core
open Go.RowKit
def DueC (t : ByteArray) (y mo d h mi s : Int) (b ok : Bool) : Prop := ∀ w, Calls Tryz.prog 14 #[.string t, .agg #[.int .i64 y, .int .i64 mo, .int .i64 d, .int .i64 h, .int .i64 mi, .int .i64 s]] w fun e w' => e = .returned (.tuple #[.bool b, .bool ok]) ∧ Below w.heap.size w w'
open Classical in
noncomputable def impl_Due.f (t : ByteArray) (y mo d h mi s : Int) : Option (Bool × Bool) :=
  if hx : ∃ p : Bool × Bool, DueC t y mo d h mi s p.1 p.2 then some (Classical.choose hx) else none
theorem DueC.eq {t : ByteArray} {y mo d h mi s : Int} {b ok : Bool} (hd : DueC t y mo d h mi s b ok) : impl_Due.f t y mo d h mi s = some (b, ok) := by
  have hx : ∃ p : Bool × Bool, DueC t y mo d h mi s p.1 p.2 := ⟨(b, ok), hd⟩
  unfold impl_Due.f
  rw [dif_pos hx]
  have hp := Classical.choose_spec hx
  have e := calls_one (hp default) (hd default) (by kernel_rfl)
  injection e with e
  generalize Classical.choose hx = p at e
  obtain ⟨p1, p2⟩ := p
  simp at e
  rw [e.1, e.2]
end Go.Proofs.YtemgofomhjabpaaGreatDoor.Core
namespace Go.Proofs.YtemgofomhjabpaaGreatDoor.Core
open Go.RowKit Go.Proofs.YtemgofomhjabpaaGreatDoorW.PrintWords
theorem new_c (w : World) : Calls Tryz.prog 31 #[] w fun e w' => ∃ G C v0 v1 v2, e = .returned (.pointer (some ⟨G, 0, none⟩)) ∧ w'.cell? ⟨G, 0, none⟩ = some (.iface 92 (.pointer (some ⟨C, 0, none⟩))) ∧ w'.cell? ⟨C, 0, none⟩ = some v0 ∧ w'.cell? ⟨C, 1, none⟩ = some v1 ∧ w'.cell? ⟨C, 2, none⟩ = some v2 ∧
    w'.frozen? ⟨C, 0, none⟩ = false ∧ w'.frozen? ⟨C, 1, none⟩ = false ∧ w'.frozen? ⟨C, 2, none⟩ = false ∧ w.heap.size ≤ C ∧ C < G ∧ Below w.heap.size w w' := by
  refine (new_w w).mono ?_
  rintro e w' ⟨rfl, rfl⟩
  exact ⟨w.heap.size + 1, w.heap.size, _, _, _, rfl, by simp [go_sem], by simp [go_sem]; rfl, by simp [go_sem]; rfl, by simp [go_sem]; rfl, by simp [go_sem], by simp [go_sem], by simp [go_sem], Nat.le_refl _, Nat.lt_succ_self _, below_alloc (below_alloc (Below.refl _ _) _) _⟩
def SM (n : Nat) (y mo d h mi s : Int) (w' : World) : Prop := n < w'.heap.size ∧ w'.cell? ⟨n, 0, none⟩ = some (.int .i64 y) ∧ w'.cell? ⟨n, 1, none⟩ = some (.int .i64 mo) ∧ w'.cell? ⟨n, 2, none⟩ = some (.int .i64 d) ∧ w'.cell? ⟨n, 3, none⟩ = some (.int .i64 h) ∧ w'.cell? ⟨n, 4, none⟩ = some (.int .i64 mi) ∧ w'.cell? ⟨n, 5, none⟩ = some (.int .i64 s)
theorem SM.below {n B : Nat} {y mo d h mi s : Int} {a b : World} (hb : Below B a b) (hn : n < B) (hS : SM n y mo d h mi s a) : SM n y mo d h mi s b := by
  have hk := fun j v (e : a.cell? ⟨n, j, none⟩ = some v) => (show b.cell? ⟨n, j, none⟩ = some v by rw [← e]; simp only [World.cell?, hb.block n hn])
  obtain ⟨h0, h1, h2, h3, h4, h5, h6⟩ := hS
  exact ⟨Nat.lt_of_lt_of_le h0 hb.size, hk _ _ h1, hk _ _ h2, hk _ _ h3, hk _ _ h4, hk _ _ h5, hk _ _ h6⟩
theorem SM.step {n : Nat} {y mo d h mi s : Int} {a b : World} (hb : Below a.heap.size a b) (hS : SM n y mo d h mi s a) : SM n y mo d h mi s b := SM.below hb hS.1 hS
theorem SM.lt {n : Nat} {y mo d h mi s : Int} {a : World} (hS : SM n y mo d h mi s a) : n < a.heap.size := hS.1
theorem frz_after {a b : World} {p : Addr} (hb : Below a.heap.size a b) (hl : p.block < a.heap.size) (h : a.frozen? p = false) : b.frozen? p = false := (hb.frozen hl).trans h
theorem al3 {w : World} {a b c : Value} {t : TypeId} : (w.alloc (.cells #[a, b, c] t)).cell? ⟨w.heap.size, 0, none⟩ = some a ∧ (w.alloc (.cells #[a, b, c] t)).cell? ⟨w.heap.size, 1, none⟩ = some b ∧ (w.alloc (.cells #[a, b, c] t)).cell? ⟨w.heap.size, 2, none⟩ = some c := by
  refine ⟨?_, ?_, ?_⟩ <;> simp [go_sem]
set_option maxRecDepth 100000 in
set_option maxHeartbeats 2000000 in
theorem due_w {y mo d h mi s : Int} (hd : DateOk y mo d) (hc : ClockOk h mi s) (expr : ByteArray) (k : Nat) (segs : List ByteArray) (hS : gronx_Segments.f k expr = some (segs, none)) (r : Bool) (hD : ∀ G C, DueW G C (extOf y mo d h mi s) segs r false) : DueC expr y mo d h mi s r true := by
  intro w
  have hd := Aside0.mk hd
  have hc := Aside0.mk hc
  have hD := Aside0.mk hD
  have hS := Aside0.mk hS
  go_enter Tryz.func14, Tryz.ntmps14
  go_wp2
  go_region_held (fun w' => w.heap.size < w'.heap.size ∧ w'.cell? ⟨w.heap.size, 0, none⟩ = some (.int .i64 y) ∧ w'.cell? ⟨w.heap.size, 1, none⟩ = some (.int .i64 mo) ∧ w'.cell? ⟨w.heap.size, 2, none⟩ = some (.int .i64 d) ∧ w'.cell? ⟨w.heap.size, 3, none⟩ = some (.int .i64 h) ∧ w'.cell? ⟨w.heap.size, 4, none⟩ = some (.int .i64 mi) ∧ w'.cell? ⟨w.heap.size, 5, none⟩ = some (.int .i64 s))
    (first | exact SM.step ((Below.refl _ _).alloc (Nat.le_refl _) _) (by assumption) | exact SM.step hbn (by assumption) | exact SM.step hbt (by assumption) | exact SM.below hb3 hlt (by assumption) | go_keep | (trace_state; fail)) (first | (go_at_call 31; refine (new_c _).mono ?_; rintro e wn ⟨G, C, v0, v1, v2, rfl, hg, hc0, hc1, hc2, hf0, hf1, hf2, hC, hCG, hbn⟩; have hlt : w.heap.size < C := Nat.lt_of_lt_of_le (SM.lt (y := y) (mo := mo) (d := d) (h := h) (mi := mi) (s := s) (by assumption)) hC) | (go_at_call 33; refine (timeOf_w hd.out hc.out _).mono ?_; rintro e wt ⟨rfl, hbt⟩) | (go_at_call 32; refine (isDue_w C G C _ (extOf y mo d h mi s) expr k segs hS.out r false (hD.out G C) _ v0 v1 v2 (by first | exact hg | exact cell_after ((Below.refl _ _).alloc (Nat.le_refl _) _) hg | exact cell_after hbt hg | exact cell_after ((Below.refl _ _).alloc (Nat.le_refl _) _) (cell_after hbt hg)) (by first | exact hc0 | exact cell_after ((Below.refl _ _).alloc (Nat.le_refl _) _) hc0 | exact cell_after hbt hc0 | exact cell_after ((Below.refl _ _).alloc (Nat.le_refl _) _) (cell_after hbt hc0)) (by first | exact hc1 | exact cell_after ((Below.refl _ _).alloc (Nat.le_refl _) _) hc1 | exact cell_after hbt hc1 | exact cell_after ((Below.refl _ _).alloc (Nat.le_refl _) _) (cell_after hbt hc1)) (by first | exact hc2 | exact cell_after ((Below.refl _ _).alloc (Nat.le_refl _) _) hc2 | exact cell_after hbt hc2 | exact cell_after ((Below.refl _ _).alloc (Nat.le_refl _) _) (cell_after hbt hc2)) (by first | exact hf0 | exact frz_after ((Below.refl _ _).alloc (Nat.le_refl _) _) (World.block_lt_of_cell? wn ⟨C, 0, none⟩ hc0) hf0 | exact frz_after hbt (World.block_lt_of_cell? wn ⟨C, 0, none⟩ hc0) hf0 | exact frz_after ((Below.refl _ _).alloc (Nat.le_refl _) _) (Nat.lt_of_lt_of_le (World.block_lt_of_cell? wn ⟨C, 0, none⟩ hc0) hbt.size) (frz_after hbt (World.block_lt_of_cell? wn ⟨C, 0, none⟩ hc0) hf0)) (by first | exact hf1 | exact frz_after ((Below.refl _ _).alloc (Nat.le_refl _) _) (World.block_lt_of_cell? wn ⟨C, 0, none⟩ hc0) hf1 | exact frz_after hbt (World.block_lt_of_cell? wn ⟨C, 0, none⟩ hc0) hf1 | exact frz_after ((Below.refl _ _).alloc (Nat.le_refl _) _) (Nat.lt_of_lt_of_le (World.block_lt_of_cell? wn ⟨C, 0, none⟩ hc0) hbt.size) (frz_after hbt (World.block_lt_of_cell? wn ⟨C, 0, none⟩ hc0) hf1)) (by first | exact hf2 | exact frz_after ((Below.refl _ _).alloc (Nat.le_refl _) _) (World.block_lt_of_cell? wn ⟨C, 0, none⟩ hc0) hf2 | exact frz_after hbt (World.block_lt_of_cell? wn ⟨C, 0, none⟩ hc0) hf2 | exact frz_after ((Below.refl _ _).alloc (Nat.le_refl _) _) (Nat.lt_of_lt_of_le (World.block_lt_of_cell? wn ⟨C, 0, none⟩ hc0) hbt.size) (frz_after hbt (World.block_lt_of_cell? wn ⟨C, 0, none⟩ hc0) hf2)) (by first | exact al3.1 | exact cell_after hbn al3.1) (by first | exact al3.2.1 | exact cell_after hbn al3.2.1) (by first | exact al3.2.2 | exact cell_after hbn al3.2.2) (Nat.le_refl _) (Nat.ne_of_lt hCG) (by have h1 : C < wn.heap.size := World.block_lt_of_cell? wn ⟨C, 0, none⟩ hc0; have h2 := hbt.size; have h3 := hbn.size; have h4 := hC; (try simp at h4); (try simp at h3); (try simp at h2); omega)).mono ?_; rintro e w3 ⟨ev, rfl, hev, hb3⟩; obtain rfl := ErrV.nil hev))
  rename_i hHeld
  clear hHeld
  go_wp2
  go_region_held (fun _ => True) (trivial) (fail)
  rename_i hHeld2
  clear hHeld2
  go_wp2
  go_ret2
  have b1 : Below w.heap.size w wn := below_step (by repeat (first | exact Below.refl _ _ | apply below_alloc | apply below_drew1)) hbn
  exact ⟨rfl, ((below_alloc (below_step b1 hbt) _).trans (hb3.mono (Nat.le_of_lt hlt))).drew⟩
end Go.Proofs.YtemgofomhjabpaaGreatDoor.Core
namespace Go.Proofs.YtemgofomhjabpaaGreatDoor.Core
open Go.RowKit Go.Proofs.YtemgofomhjabpaaGreatDoorW.PrintWords
theorem dueL_items (c : Nat) (i : Nat) (hi : i < 6) (l : List It) (hg : ∀ x ∈ l, goodItem i x = true) (n : Int) (n0 : lowI i ≤ n) (n1 : n ≤ highI i) : DueL c n i (l.map fun x => B (itemL x)) (hasF i l n) false := by
  induction l with
  | nil => exact ⟨rfl, rfl⟩
  | cons x t ih =>
    refine ⟨hasIt i x n, false, offC_item c i hi x (hg x (by simp)) n n0 n1, ?_⟩
    have hcons : hasF i (x :: t) n = (hasIt i x n || hasF i t n) := rfl
    rw [hcons]
    cases hb : hasIt i x n with
    | true => rw [if_pos (Or.inl rfl)]; exact ⟨rfl, rfl⟩
    | false => rw [if_neg (by simp), Bool.false_or]; exact ih (fun y hy => hg y (by simp [hy]))
theorem ev_all {α β : Type} (l : List α) (F : α → Nat → Option β) (r : α → β) (h : ∀ a ∈ l, Ev (F a) (r a)) : ∃ K, ∀ k, K ≤ k → ∀ a ∈ l, F a k = some (r a) := by
  induction l with
  | nil => exact ⟨0, fun _ _ _ ha => by cases ha⟩
  | cons x t ih =>
    obtain ⟨K, hK⟩ := ih (fun a ha => h a (by simp [ha]))
    obtain ⟨L, hL⟩ := h x (by simp)
    refine ⟨max K L, fun k hk a ha => ?_⟩
    rcases List.mem_cons.1 ha with rfl | ha
    · exact hL k (by omega)
    · exact hK k (by omega) a ha
theorem itemL_chars (x : It) : ∀ b ∈ itemL x, b = 42 ∨ b = 45 ∨ b = 47 ∨ (48 ≤ b.toNat ∧ b.toNat ≤ 57) := by
  have hs : ∀ b ∈ stepL x.f3, b = 42 ∨ b = 45 ∨ b = 47 ∨ (48 ≤ b.toNat ∧ b.toNat ≤ 57) := by
    intro b hb
    unfold stepL at hb
    split at hb
    · rcases List.mem_cons.1 hb with h | h
      · exact .inr (.inr (.inl h))
      · exact .inr (.inr (.inr (decN_digit _ b h)))
    · cases hb
  intro b hb
  unfold itemL at hb
  split at hb
  · rcases List.mem_cons.1 hb with h | h
    · exact .inl h
    · exact hs b h
  · rcases List.mem_append.1 hb with h | h
    · exact .inr (.inr (.inr (decN_digit _ b h)))
    · rcases List.mem_append.1 h with h | h
      · split at h
        · rcases List.mem_cons.1 h with h | h
          · exact .inr (.inl h)
          · exact .inr (.inr (.inr (decN_digit _ b h)))
        · cases h
      · exact hs b h
theorem itemL_not (x : It) (c : UInt8) (h1 : c ≠ 42) (h2 : c ≠ 45) (h3 : c ≠ 47) (h4 : c.toNat < 48 ∨ 57 < c.toNat) : c ∉ itemL x := fun e => by
  rcases itemL_chars x c e with h | h | h | h
  · exact h1 h
  · exact h2 h
  · exact h3 h
  · omega
theorem segA_parts {x y mo d h mi s : Int} (M : Moment' x y mo d h mi s) (pos : Nat) (hp : pos < 7) (P : List (List UInt8)) (hne : P ≠ []) (h44 : ∀ p ∈ P, 44 ∉ p) (hl : (joinL 44 P).length < 1000000) (hn : P.length < 1000000) (hm : ∀ p ∈ P, p.length < 1000000 ∧ ∀ b ∈ p, b ≠ 76 ∧ b ≠ 87 ∧ b ≠ 35)
    (b er : Bool) (hD : ∀ c, DueL c (posV y mo d h mi s pos) pos (P.map B) b er) : SegA x (B (joinL 44 P)) pos b er := by
  have hs := zzSplit_ev 44 (joinL 44 P) (by omega)
  rw [splitL_join 44 P hne h44] at hs
  obtain ⟨K1, hK1⟩ := hs
  obtain ⟨K2, hK2⟩ := ev_all P (fun p k => gronx_zzContainsAny.f k (B p) (B [76, 87, 35])) (fun _ => false) (fun p hp => by
    have := any_ev p [76, 87, 35] (by have := (hm p hp).1; omega) (by simp)
    rw [show (p.any fun b => ([76, 87, 35] : List UInt8).contains b) = false by
      rw [List.any_eq_false]
      intro b hb
      have := (hm p hp).2 b hb
      simp [this.1, this.2.1, this.2.2]] at this
    exact this)
  refine segA_of M _ pos hp (max K1 K2) (P.map B) (hK1 _ (by omega)) (by rw [List.length_map]; exact hn) (fun _ o ho => ?_) b er hD
  obtain ⟨p, hp, rfl⟩ := List.mem_map.1 ho
  exact hK2 _ (by omega) p hp
theorem posV_range {y mo d h mi s : Int} (hd : DateOk y mo d) (hc : ClockOk h mi s) (i : Nat) (hi : i < 6) : lowI i ≤ posV y mo d h mi s i ∧ posV y mo d h mi s i ≤ highI i := by
  have h31 := (daysI_cases y mo hd.m0 hd.m1).1
  have := hd.d1
  have hw0 : 0 ≤ wdI y mo d := Int.emod_nonneg _ (by decide)
  have hw1 : wdI y mo d < 7 := Int.emod_lt_of_pos _ (by decide)
  match i, hi with
  | 0, _ => exact ⟨hc.s0, hc.s1⟩
  | 1, _ => exact ⟨hc.m0, hc.m1⟩
  | 2, _ => exact ⟨hc.h0, hc.h1⟩
  | 3, _ => exact ⟨hd.d0, by show d ≤ 31; omega⟩
  | 4, _ => exact ⟨hd.m0, hd.m1⟩
  | 5, _ => exact ⟨hw0, by show wdI y mo d ≤ 6; omega⟩
theorem items_small {i : Nat} {l : List It} (hg : goodF i l = true) : (∀ p ∈ l.map itemL, p.length < 1000000 ∧ ∀ b ∈ p, b ≠ 76 ∧ b ≠ 87 ∧ b ≠ 35) ∧ (∀ p ∈ l.map itemL, 44 ∉ p) ∧ l.map itemL ≠ [] ∧ (l.map itemL).length < 1000000 := by
  obtain ⟨h1, h2, h3⟩ := goodF_spec hg
  refine ⟨fun p hp => ?_, fun p hp => ?_, ?_, by rw [List.length_map]; omega⟩
  · obtain ⟨x, hx, rfl⟩ := List.mem_map.1 hp
    have := itemL_length (h1 x hx)
    refine ⟨by omega, fun b hb => ⟨fun e => ?_, fun e => ?_, fun e => ?_⟩⟩ <;> subst e
    · exact itemL_not x _ (by decide) (by decide) (by decide) (by decide) hb
    · exact itemL_not x _ (by decide) (by decide) (by decide) (by decide) hb
    · exact itemL_not x _ (by decide) (by decide) (by decide) (by decide) hb
  · obtain ⟨x, hx, rfl⟩ := List.mem_map.1 hp
    exact itemL_not x 44 (by decide) (by decide) (by decide) (by decide)
  · intro e
    have := congrArg List.length e
    simp at this
    subst this
    simp at h2
theorem segA_field {x y mo d h mi s : Int} (M : Moment' x y mo d h mi s) (i : Nat) (hi : i < 6) (l : List It) (hg : goodF i l = true) : SegA x (B (fieldL l)) i (hasF i l (posV y mo d h mi s i)) false := by
  obtain ⟨q1, q2, q3, q4⟩ := items_small hg
  have hl := fieldL_length hg
  obtain ⟨v0, v1⟩ := posV_range M.date M.clock i hi
  refine segA_parts M i (by omega) (l.map itemL) q3 q2 (by show (fieldL l).length < _; omega) q4 q1 _ false (fun c => ?_)
  rw [List.map_map]
  exact dueL_items c i hi l (goodF_spec hg).1 _ v0 v1
theorem dueR_all (x : Int) (segs : List ByteArray) (bs : Nat → Bool) (h : ∀ (q : Nat) (hq : q < segs.length), (IsStar segs[q] ∧ bs q = true) ∨ (segs[q] ≠ ⟨#[42]⟩ ∧ segs[q] ≠ ⟨#[63]⟩ ∧ SegA x segs[q] q (bs q) false)) :
    ∀ q, q ≤ segs.length → DueR x segs q ((List.range q).all bs) := by
  intro q
  induction q with
  | zero => intro _; exact rfl
  | succ q ih =>
    intro hq
    have hrec := ih (by omega)
    have hall : (List.range (q + 1)).all bs = ((List.range q).all bs && bs q) := by rw [List.range_succ, List.all_append]; simp
    rw [hall]
    rcases h q (by omega) with ⟨hs, hb⟩ | ⟨h1, h2, hA⟩
    · refine .inl ⟨segs[q], List.getElem?_eq_getElem _, hs, ?_⟩
      rw [hb, Bool.and_true]
      exact hrec
    · refine .inr ⟨segs[q], bs q, List.getElem?_eq_getElem _, h1, h2, hA, ?_⟩
      cases hb : bs q with
      | true => rw [if_pos rfl, Bool.and_true]; exact hrec
      | false => rw [if_neg (by simp), Bool.and_false]
end Go.Proofs.YtemgofomhjabpaaGreatDoor.Core
namespace Go.Proofs.YtemgofomhjabpaaGreatDoor.Core
open Go.RowKit Go.Proofs.YtemgofomhjabpaaGreatDoorW.PrintWords
def fitB (Fs : List (List It)) (y mo d h mi s : Int) : Bool := (List.range 6).all fun q => hasF q (Fs.getD q []) (posV y mo d h mi s q)
end Go.Proofs.YtemgofomhjabpaaGreatDoor.Core
namespace Go.Proofs.YtemgofomhjabpaaGreatDoor.Core
open Go.RowKit Go.Proofs.YtemgofomhjabpaaGreatDoorW.PrintWords
theorem joinL_single (c : UInt8) (P : List (List UInt8)) (hne : P ≠ []) (hP : ∀ p ∈ P, p ≠ []) (a : UInt8) (h : joinL c P = [a]) : P = [[a]] := by
  match P, hne with
  | [p], _ => rw [joinL] at h; rw [h]
  | p :: q :: t, _ =>
    exfalso
    have h1 := hP p (by simp)
    have h2 := joinL_ne c (q :: t) (by simp) (fun p hp => hP p (by simp [hp]))
    rw [joinL] at h
    have := congrArg List.length h
    simp only [List.length_append, List.length_cons, List.length_nil] at this
    have l1 := List.length_pos_iff.2 h1
    omega
theorem field_star {i : Nat} {l : List It} (hg : goodF i l = true) (h : fieldL l = [42]) : starF l = true := by
  obtain ⟨h1, h2, h3⟩ := goodF_spec hg
  have e := joinL_single 44 (l.map itemL) (by intro e; have := congrArg List.length e; simp at this; subst this; simp at h2) (fun p hp => by obtain ⟨x, _, rfl⟩ := List.mem_map.1 hp; exact itemL_ne x) 42 h
  have hl1 : l.length = 1 := by have := congrArg List.length e; simpa using this
  obtain ⟨x, rfl⟩ := List.length_eq_one_iff.1 hl1
  have hx : itemL x = [42] := by simpa using e
  obtain ⟨s1, _, _⟩ := goodItem_spec (h1 x (by simp))
  cases h0 : x.f0 with
  | false =>
    exfalso
    unfold itemL at hx
    rw [h0] at hx
    exact dec_ne' x.f1.toNat _ 42 [] (by decide) hx
  | true =>
    by_cases hs : 1 < x.f3
    · exfalso
      simp [itemL, h0, stepL, hs] at hx
    · have : x.f3 = 1 := by omega
      simp [starF, h0, this]
theorem star_field {l : List It} (h : starF l = true) : fieldL l = [42] ∧ ∃ x, l = [x] ∧ x.f0 = true ∧ x.f3 = 1 := by
  unfold starF at h
  split at h
  · rename_i x
    simp only [Bool.and_eq_true, beq_iff_eq] at h
    exact ⟨by simp [fieldL, joinL, itemL, stepL, h.1, h.2], x, rfl, h.1, h.2⟩
  · cases h
theorem star_has {i : Nat} {l : List It} (h : starF l = true) (n : Int) (n0 : lowI i ≤ n) (n1 : n ≤ highI i) : hasF i l n = true := by
  obtain ⟨_, x, rfl, h0, h1⟩ := star_field h
  simp [hasF, hasIt, h0, h1, n0, n1, Int.emod_one]
theorem field_no63 {i : Nat} {l : List It} (hg : goodF i l = true) : fieldL l ≠ [63] := by
  intro h
  obtain ⟨h1, h2, h3⟩ := goodF_spec hg
  have e := joinL_single 44 (l.map itemL) (by intro e; have := congrArg List.length e; simp at this; subst this; simp at h2) (fun p hp => by obtain ⟨x, _, rfl⟩ := List.mem_map.1 hp; exact itemL_ne x) 63 h
  have : ([63] : List UInt8) ∈ l.map itemL := by rw [e]; simp
  obtain ⟨x, _, hx⟩ := List.mem_map.1 this
  exact itemL_not x 63 (by decide) (by decide) (by decide) (by decide) (by rw [hx]; simp)
theorem due_good {Fs : List (List It)} {secs : Bool} (hE : goodE Fs secs = true) {y mo d h mi s : Int} (hd : DateOk y mo d) (hc : ClockOk h mi s) : DueC (B (textL Fs secs)) y mo d h mi s (fitB Fs y mo d h mi s) true := by
  have hF := goodE_fs hE
  obtain ⟨f0, f1, f2, f3, f4, f5, rfl, h0, h1, h2, h3, h4, h5, hr⟩ := goodE_spec hE
  have hst : starF f3 = true ∨ starF f5 = true := by
    unfold restE at hr
    simp only [Bool.and_eq_true, Bool.or_eq_true] at hr
    exact hr.1.2
  have M : Moment' (extOf y mo d h mi s) y mo d h mi s := ⟨hd, hc, rfl⟩
  obtain ⟨K, hK⟩ := exprSegments_ev hE
  have l3 := fieldL_length h3
  have l5 := fieldL_length h5
  obtain ⟨K5, hK5⟩ := zzIndex_ev (fieldL f5) [42, 47] (by simp) (by omega) (by simp)
  obtain ⟨K3, hK3⟩ := zzIndex_ev (fieldL f3) [42] (by simp) (by omega) (by simp)
  refine due_w hd hc _ K _ (hK K (Nat.le_refl _)) _ (fun G C => ?_)
  refine segmentsDue_w G C _ _ (max K5 K3) (idxL [42, 47] (fieldL f5) 0) (idxL [42] (fieldL f3) 0) (by simp) (by simp) (hK5 _ (by omega)) (hK3 _ (by omega)) ?_ _ ?_
  · rcases hst with e | e
    · refine .inr (.inr (.inl ?_))
      rw [(star_field e).1]
      rfl
    · refine .inl (.inl ?_)
      show B (fieldL f5) = _
      rw [(star_field e).1]
      rfl
  · refine dueR_all _ _ (fun q => hasF q ([f0, f1, f2, f3, f4, f5].getD q []) (posV y mo d h mi s q)) (fun q hq => ?_) 6 (by simp)
    have hq6 : q < 6 := by simpa using hq
    have hg := hF.2 q (by simpa using hq)
    have hget : ([f0, f1, f2, f3, f4, f5].getD q []) = [f0, f1, f2, f3, f4, f5][q]'(by simpa using hq) := by simp [List.getD, hq6]
    have hseg : ([f0, f1, f2, f3, f4, f5].map fun f => B (fieldL f))[q] = B (fieldL ([f0, f1, f2, f3, f4, f5][q]'(by simpa using hq))) := List.getElem_map _
    rw [hseg]
    simp only [hget]
    generalize [f0, f1, f2, f3, f4, f5][q]'(by simpa using hq) = l at hg
    obtain ⟨v0, v1⟩ := posV_range hd hc q hq6
    by_cases e : fieldL l = [42]
    · refine .inl ⟨.inl (by rw [e]; rfl), star_has (field_star hg e) _ v0 v1⟩
    · refine .inr ⟨fun e' => e (B_inj e'), fun e' => field_no63 hg (B_inj e'), segA_field M q hq6 l hg⟩
end Go.Proofs.YtemgofomhjabpaaGreatDoor.Core
namespace Go.Proofs.YtemgofomhjabpaaGreatDoor.Core
open Go.RowKit Go.Proofs.YtemgofomhjabpaaGreatDoorW.PrintWords
set_option maxRecDepth 100000 in
set_option maxHeartbeats 2000000 in
theorem mg_5 (y mo d h mi s : Int) (a0 : 1990 ≤ y) (a1 : y ≤ 2090) (a2 : 1 ≤ mo) (a3 : mo ≤ 12) (a4 : 1 ≤ d) (a5 : ¬ d ≤ daysI y mo) : GoodC y mo d h mi s false := by
  intro w
  have hdy := Aside0.mk (days_some y mo (by omega) a2 a3)
  replace a5 : (d ≤ daysI y mo) = False := eq_false a5
  go_enter Tryz.func22, Tryz.ntmps22
  go_wp2
  go_quiet (first | (go_at_call 37; exact days_quiet y mo hdy.out _ _))
  go_wp2
  go_ret
  exact ⟨rfl, by repeat (first | exact Below.refl _ _ | apply below_alloc | apply below_drew1 | apply pw_below_drewN)⟩
set_option maxRecDepth 100000 in
set_option maxHeartbeats 2000000 in
theorem mg_6 (y mo d h mi s : Int) (a0 : 1990 ≤ y) (a1 : y ≤ 2090) (a2 : 1 ≤ mo) (a3 : mo ≤ 12) (a4 : 1 ≤ d) (a5 : d ≤ daysI y mo) (a6 : ¬ 0 ≤ h) : GoodC y mo d h mi s false := by
  intro w
  have hdy := Aside0.mk (days_some y mo (by omega) a2 a3)
  replace a6 : (0 ≤ h) = False := eq_false a6
  go_enter Tryz.func22, Tryz.ntmps22
  go_wp2
  go_quiet (first | (go_at_call 37; exact days_quiet y mo hdy.out _ _))
  go_wp2
  go_ret
  exact ⟨rfl, by repeat (first | exact Below.refl _ _ | apply below_alloc | apply below_drew1 | apply pw_below_drewN)⟩
end Go.Proofs.YtemgofomhjabpaaGreatDoor.Core
namespace Go.Proofs.YtemgofomhjabpaaGreatDoor.Core
open Go.RowKit Go.Proofs.YtemgofomhjabpaaGreatDoorW.PrintWords
set_option maxRecDepth 100000 in
set_option maxHeartbeats 2000000 in
theorem mg_7 (y mo d h mi s : Int) (a0 : 1990 ≤ y) (a1 : y ≤ 2090) (a2 : 1 ≤ mo) (a3 : mo ≤ 12) (a4 : 1 ≤ d) (a5 : d ≤ daysI y mo) (a6 : 0 ≤ h) (a7 : ¬ h ≤ 23) : GoodC y mo d h mi s false := by
  intro w
  have hdy := Aside0.mk (days_some y mo (by omega) a2 a3)
  replace a7 : (h ≤ 23) = False := eq_false a7
  go_enter Tryz.func22, Tryz.ntmps22
  go_wp2
  go_quiet (first | (go_at_call 37; exact days_quiet y mo hdy.out _ _))
  go_wp2
  go_ret
  exact ⟨rfl, by repeat (first | exact Below.refl _ _ | apply below_alloc | apply below_drew1 | apply pw_below_drewN)⟩
set_option maxRecDepth 100000 in
set_option maxHeartbeats 2000000 in
theorem mg_8 (y mo d h mi s : Int) (a0 : 1990 ≤ y) (a1 : y ≤ 2090) (a2 : 1 ≤ mo) (a3 : mo ≤ 12) (a4 : 1 ≤ d) (a5 : d ≤ daysI y mo) (a6 : 0 ≤ h) (a7 : h ≤ 23) (a8 : ¬ 0 ≤ mi) : GoodC y mo d h mi s false := by
  intro w
  have hdy := Aside0.mk (days_some y mo (by omega) a2 a3)
  replace a8 : (0 ≤ mi) = False := eq_false a8
  go_enter Tryz.func22, Tryz.ntmps22
  go_wp2
  go_quiet (first | (go_at_call 37; exact days_quiet y mo hdy.out _ _))
  go_wp2
  go_ret
  exact ⟨rfl, by repeat (first | exact Below.refl _ _ | apply below_alloc | apply below_drew1 | apply pw_below_drewN)⟩
end Go.Proofs.YtemgofomhjabpaaGreatDoor.Core
namespace Go.Proofs.YtemgofomhjabpaaGreatDoor.Core
open Go.RowKit Go.Proofs.YtemgofomhjabpaaGreatDoorW.PrintWords
set_option maxRecDepth 100000 in
set_option maxHeartbeats 2000000 in
theorem mg_9 (y mo d h mi s : Int) (a0 : 1990 ≤ y) (a1 : y ≤ 2090) (a2 : 1 ≤ mo) (a3 : mo ≤ 12) (a4 : 1 ≤ d) (a5 : d ≤ daysI y mo) (a6 : 0 ≤ h) (a7 : h ≤ 23) (a8 : 0 ≤ mi) (a9 : ¬ mi ≤ 59) : GoodC y mo d h mi s false := by
  intro w
  have hdy := Aside0.mk (days_some y mo (by omega) a2 a3)
  replace a9 : (mi ≤ 59) = False := eq_false a9
  go_enter Tryz.func22, Tryz.ntmps22
  go_wp2
  go_quiet (first | (go_at_call 37; exact days_quiet y mo hdy.out _ _))
  go_wp2
  go_ret
  exact ⟨rfl, by repeat (first | exact Below.refl _ _ | apply below_alloc | apply below_drew1 | apply pw_below_drewN)⟩
set_option maxRecDepth 100000 in
set_option maxHeartbeats 2000000 in
theorem mg_10 (y mo d h mi s : Int) (a0 : 1990 ≤ y) (a1 : y ≤ 2090) (a2 : 1 ≤ mo) (a3 : mo ≤ 12) (a4 : 1 ≤ d) (a5 : d ≤ daysI y mo) (a6 : 0 ≤ h) (a7 : h ≤ 23) (a8 : 0 ≤ mi) (a9 : mi ≤ 59) (a10 : ¬ 0 ≤ s) : GoodC y mo d h mi s false := by
  intro w
  have hdy := Aside0.mk (days_some y mo (by omega) a2 a3)
  replace a10 : (0 ≤ s) = False := eq_false a10
  go_enter Tryz.func22, Tryz.ntmps22
  go_wp2
  go_quiet (first | (go_at_call 37; exact days_quiet y mo hdy.out _ _))
  go_wp2
  go_ret
  exact ⟨rfl, by repeat (first | exact Below.refl _ _ | apply below_alloc | apply below_drew1 | apply pw_below_drewN)⟩
end Go.Proofs.YtemgofomhjabpaaGreatDoor.Core
namespace Go.Proofs.YtemgofomhjabpaaGreatDoor.Core
open Go.RowKit Go.Proofs.YtemgofomhjabpaaGreatDoorW.PrintWords
set_option maxRecDepth 100000 in
set_option maxHeartbeats 2000000 in
theorem mg_11 (y mo d h mi s : Int) (a0 : 1990 ≤ y) (a1 : y ≤ 2090) (a2 : 1 ≤ mo) (a3 : mo ≤ 12) (a4 : 1 ≤ d) (a5 : d ≤ daysI y mo) (a6 : 0 ≤ h) (a7 : h ≤ 23) (a8 : 0 ≤ mi) (a9 : mi ≤ 59) (a10 : 0 ≤ s) (a11 : ¬ s ≤ 59) : GoodC y mo d h mi s false := by
  intro w
  have hdy := Aside0.mk (days_some y mo (by omega) a2 a3)
  replace a11 : (s ≤ 59) = False := eq_false a11
  go_enter Tryz.func22, Tryz.ntmps22
  go_wp2
  go_quiet (first | (go_at_call 37; exact days_quiet y mo hdy.out _ _))
  go_wp2
  go_ret
  exact ⟨rfl, by repeat (first | exact Below.refl _ _ | apply below_alloc | apply below_drew1 | apply pw_below_drewN)⟩
set_option maxRecDepth 100000 in
set_option maxHeartbeats 2000000 in
theorem mg_12 (y mo d h mi s : Int) (a0 : 1990 ≤ y) (a1 : y ≤ 2090) (a2 : 1 ≤ mo) (a3 : mo ≤ 12) (a4 : 1 ≤ d) (a5 : d ≤ daysI y mo) (a6 : 0 ≤ h) (a7 : h ≤ 23) (a8 : 0 ≤ mi) (a9 : mi ≤ 59) (a10 : 0 ≤ s) (a11 : s ≤ 59) : GoodC y mo d h mi s true := by
  intro w
  have hdy := Aside0.mk (days_some y mo (by omega) a2 a3)
  go_enter Tryz.func22, Tryz.ntmps22
  go_wp2
  go_quiet (first | (go_at_call 37; exact days_quiet y mo hdy.out _ _))
  go_wp2
  go_ret
  exact ⟨rfl, by repeat (first | exact Below.refl _ _ | apply below_alloc | apply below_drew1 | apply pw_below_drewN)⟩
end Go.Proofs.YtemgofomhjabpaaGreatDoor.Core
namespace Go.Proofs.YtemgofomhjabpaaGreatDoor.Core
open Go.RowKit Go.Proofs.YtemgofomhjabpaaGreatDoorW.PrintWords
theorem goodM_eq (y mo d h mi s : Int) : spec_MomentGood.f y mo d h mi s = some (goodM y mo d h mi s) := by
  unfold goodM
  by_cases b0 : ¬ 1990 ≤ y
  · rw [(mg_0 y mo d h mi s b0).eq, decide_eq_false (fun e => b0 e.1)]
  have a0 : 1990 ≤ y := Decidable.of_not_not b0
  by_cases b1 : ¬ y ≤ 2090
  · rw [(mg_1 y mo d h mi s a0 b1).eq, decide_eq_false (fun e => b1 e.2.1)]
  have a1 : y ≤ 2090 := Decidable.of_not_not b1
  by_cases b2 : ¬ 1 ≤ mo
  · rw [(mg_2 y mo d h mi s a0 a1 b2).eq, decide_eq_false (fun e => b2 e.2.2.1)]
  have a2 : 1 ≤ mo := Decidable.of_not_not b2
  by_cases b3 : ¬ mo ≤ 12
  · rw [(mg_3 y mo d h mi s a0 a1 a2 b3).eq, decide_eq_false (fun e => b3 e.2.2.2.1)]
  have a3 : mo ≤ 12 := Decidable.of_not_not b3
  by_cases b4 : ¬ 1 ≤ d
  · rw [(mg_4 y mo d h mi s a0 a1 a2 a3 b4).eq, decide_eq_false (fun e => b4 e.2.2.2.2.1)]
  have a4 : 1 ≤ d := Decidable.of_not_not b4
  by_cases b5 : ¬ d ≤ daysI y mo
  · rw [(mg_5 y mo d h mi s a0 a1 a2 a3 a4 b5).eq, decide_eq_false (fun e => b5 e.2.2.2.2.2.1)]
  have a5 : d ≤ daysI y mo := Decidable.of_not_not b5
  by_cases b6 : ¬ 0 ≤ h
  · rw [(mg_6 y mo d h mi s a0 a1 a2 a3 a4 a5 b6).eq, decide_eq_false (fun e => b6 e.2.2.2.2.2.2.1)]
  have a6 : 0 ≤ h := Decidable.of_not_not b6
  by_cases b7 : ¬ h ≤ 23
  · rw [(mg_7 y mo d h mi s a0 a1 a2 a3 a4 a5 a6 b7).eq, decide_eq_false (fun e => b7 e.2.2.2.2.2.2.2.1)]
  have a7 : h ≤ 23 := Decidable.of_not_not b7
  by_cases b8 : ¬ 0 ≤ mi
  · rw [(mg_8 y mo d h mi s a0 a1 a2 a3 a4 a5 a6 a7 b8).eq, decide_eq_false (fun e => b8 e.2.2.2.2.2.2.2.2.1)]
  have a8 : 0 ≤ mi := Decidable.of_not_not b8
  by_cases b9 : ¬ mi ≤ 59
  · rw [(mg_9 y mo d h mi s a0 a1 a2 a3 a4 a5 a6 a7 a8 b9).eq, decide_eq_false (fun e => b9 e.2.2.2.2.2.2.2.2.2.1)]
  have a9 : mi ≤ 59 := Decidable.of_not_not b9
  by_cases b10 : ¬ 0 ≤ s
  · rw [(mg_10 y mo d h mi s a0 a1 a2 a3 a4 a5 a6 a7 a8 a9 b10).eq, decide_eq_false (fun e => b10 e.2.2.2.2.2.2.2.2.2.2.1)]
  have a10 : 0 ≤ s := Decidable.of_not_not b10
  by_cases b11 : ¬ s ≤ 59
  · rw [(mg_11 y mo d h mi s a0 a1 a2 a3 a4 a5 a6 a7 a8 a9 a10 b11).eq, decide_eq_false (fun e => b11 e.2.2.2.2.2.2.2.2.2.2.2)]
  have a11 : s ≤ 59 := Decidable.of_not_not b11
  rw [(mg_12 y mo d h mi s a0 a1 a2 a3 a4 a5 a6 a7 a8 a9 a10 a11).eq, decide_eq_true ⟨a0, a1, a2, a3, a4, a5, a6, a7, a8, a9, a10, a11⟩]
end Go.Proofs.YtemgofomhjabpaaGreatDoor.Core
namespace Go.Proofs.YtemgofomhjabpaaGreatDoor.Core
open Go.RowKit Go.Proofs.YtemgofomhjabpaaGreatDoorW.PrintWords
abbrev Ro := S69
def cv (x : Ro) : It := ⟨x.f0, x.f1, x.f2, x.f3⟩
def cvs (raw : List (List Ro)) : List (List It) := raw.map fun l => l.map cv
def fitsB (raw : List (List Ro)) : Bool := decide (raw.length ≤ 2147483647) && raw.all fun l => decide (l.length ≤ 2147483647)
theorem rdRo_at (l : List Ro) (j : Nat) (h : j < l.length) : rd_T69 l (j : Int) = l[j] := by simp [rd_T69, h]
theorem rdRoF_at (l : List (List Ro)) (j : Nat) (h : j < l.length) : rd_L3 l (j : Int) = l[j] := by simp [rd_L3, h]
theorem fits_from (raw : List (List Ro)) (hl : raw.length ≤ 2147483647) :
    ∀ (rest : List (List Ro)) (j : Nat), raw.drop j = rest → j ≤ raw.length → Ev (fun k => laws_zzFits2.l0 k raw (raw.length : Int) (j : Int)) (rest.all fun l => decide (l.length ≤ 2147483647)) := by
  intro rest
  induction rest with
  | nil =>
    intro j hj hjl
    have hlen : raw.length ≤ j := List.drop_eq_nil_iff.1 hj
    refine Ev.done fun k => ?_
    simp only [laws_zzFits2.l0]
    rw [if_neg (by omega)]
    rfl
  | cons x t ih =>
    intro j hj hjl
    have hlt : j < raw.length := by
      rcases Nat.lt_or_ge j raw.length with h | h
      · exact h
      · rw [List.drop_eq_nil_of_le h] at hj; cases hj
    have hx : raw[j] = x := by
      have := List.drop_eq_getElem_cons hlt
      rw [hj] at this
      exact (List.cons.inj this).1.symm
    have ht : raw.drop (j + 1) = t := by rw [← List.drop_drop, hj]; rfl
    have hrd := rdRoF_at raw j hlt
    rw [hx] at hrd
    have hrec := ih (j + 1) ht (by omega)
    rw [List.all_cons]
    by_cases h1 : x.length ≤ 2147483647
    · rw [decide_eq_true h1, Bool.true_and]
      refine Ev.step (f := fun k => laws_zzFits2.l0 k raw (raw.length : Int) ((j + 1 : Nat) : Int)) (fun k => ?_) hrec
      simp only [laws_zzFits2.l0, hrd]
      rw [if_pos (by omega), if_pos (by omega), if_pos (by omega), if_neg (by omega), wrap64_nat j (by omega)]
    · rw [decide_eq_false h1, Bool.false_and]
      refine Ev.done fun k => ?_
      simp only [laws_zzFits2.l0, hrd]
      rw [if_pos (by omega), if_pos (by omega), if_pos (by omega), if_pos (by omega)]
theorem fits2_ev (raw : List (List Ro)) : Ev (fun k => laws_zzFits2.f k raw) (fitsB raw) := by
  unfold fitsB
  by_cases h : raw.length ≤ 2147483647
  · rw [decide_eq_true h, Bool.true_and]
    refine Ev.congr (f := fun k => laws_zzFits2.l0 k raw (raw.length : Int) ((0 : Nat) : Int)) (fun k => ?_) (fits_from raw h raw 0 rfl (Nat.zero_le _))
    unfold laws_zzFits2.f
    rw [if_neg (by omega)]
    rfl
  · rw [decide_eq_false h, Bool.false_and]
    refine Ev.congr (f := fun _ => some false) (fun k => ?_) (Ev.const rfl)
    unfold laws_zzFits2.f
    rw [if_pos (by omega)]
theorem fits1_ev (raw : List (List Ro)) (secs : Bool) : Ev (fun k => laws_zzFits1.f k raw secs) (fitsB raw) := by
  unfold laws_zzFits1.f
  refine Ev.bind (f := fun _ t => if t = true then some true else some false) (fits2_ev raw) (Ev.const ?_)
  cases fitsB raw <;> rfl
theorem fitsB_spec {raw : List (List Ro)} (h : fitsB raw = true) : raw.length ≤ 2147483647 ∧ ∀ l ∈ raw, l.length ≤ 2147483647 := by
  unfold fitsB at h
  simp only [Bool.and_eq_true, decide_eq_true_eq, List.all_eq_true] at h
  exact h
theorem expr_l1 (raw : List (List Ro)) (j : Int) (out : List (List It)) (secs : Bool) (l : List Ro) (hl : l.length ≤ 2147483647) (r : List (List It) × Bool) (ho : out.length < 5864062014805)
    (hn : Ev (fun k => laws_expr.l0 k raw (raw.length : Int) (wrap64 (j + 1)) (out ++ [l.map cv]) secs) r) :
    ∀ (rest : List Ro) (i : Nat), l.drop i = rest → i ≤ l.length → Ev (fun k => laws_expr.l1 k ((l.take i).map cv) raw (raw.length : Int) j l (l.length : Int) (i : Int) out secs) r := by
  intro rest
  induction rest with
  | nil =>
    intro i hi hil
    have hlen : l.length ≤ i := List.drop_eq_nil_iff.1 hi
    refine Ev.step (f := fun k => laws_expr.l0 k raw (raw.length : Int) (wrap64 (j + 1)) (out ++ [l.map cv]) secs) (fun k => ?_) hn
    simp only [laws_expr.l1]
    rw [if_neg (by omega), if_pos ho, List.take_of_length_le hlen]
  | cons x t ih =>
    intro i hi hil
    have hlt : i < l.length := by
      rcases Nat.lt_or_ge i l.length with h | h
      · exact h
      · rw [List.drop_eq_nil_of_le h] at hi; cases hi
    have ht : l.drop (i + 1) = t := by rw [← List.drop_drop, hi]; rfl
    have hrec := ih (i + 1) ht (by omega)
    refine Ev.step (f := fun k => laws_expr.l1 k ((l.take (i + 1)).map cv) raw (raw.length : Int) j l (l.length : Int) ((i + 1 : Nat) : Int) out secs) (fun k => ?_) hrec
    simp only [laws_expr.l1, rdRo_at l i hlt]
    rw [if_pos (by omega), if_pos (by omega), if_pos (by omega), if_pos (by rw [List.length_map, List.length_take]; omega), wrap64_nat i (by omega), List.take_succ_eq_append_getElem hlt, List.map_append]
    rfl
theorem expr_from (raw : List (List Ro)) (secs : Bool) (h : fitsB raw = true) :
    ∀ (rest : List (List Ro)) (j : Nat), raw.drop j = rest → j ≤ raw.length → Ev (fun k => laws_expr.l0 k raw (raw.length : Int) (j : Int) (cvs (raw.take j)) secs) (cvs raw, secs) := by
  obtain ⟨hl, hall⟩ := fitsB_spec h
  intro rest
  induction rest with
  | nil =>
    intro j hj hjl
    have hlen : raw.length ≤ j := List.drop_eq_nil_iff.1 hj
    refine Ev.done fun k => ?_
    simp only [laws_expr.l0]
    rw [if_neg (by omega), List.take_of_length_le hlen]
  | cons x t ih =>
    intro j hj hjl
    have hlt : j < raw.length := by
      rcases Nat.lt_or_ge j raw.length with h | h
      · exact h
      · rw [List.drop_eq_nil_of_le h] at hj; cases hj
    have hx : raw[j] = x := by
      have := List.drop_eq_getElem_cons hlt
      rw [hj] at this
      exact (List.cons.inj this).1.symm
    have ht : raw.drop (j + 1) = t := by rw [← List.drop_drop, hj]; rfl
    have hrd := rdRoF_at raw j hlt
    rw [hx] at hrd
    have hrec := ih (j + 1) ht (by omega)
    have hxl : x.length ≤ 2147483647 := hall x (by rw [← hx]; exact List.getElem_mem hlt)
    have hout : (cvs (raw.take j)).length < 5864062014805 := by unfold cvs; rw [List.length_map, List.length_take]; omega
    have e : cvs (raw.take (j + 1)) = cvs (raw.take j) ++ [x.map cv] := by unfold cvs; rw [List.take_succ_eq_append_getElem hlt, List.map_append, hx]; rfl
    rw [e] at hrec
    have h1 := expr_l1 raw (j : Int) (cvs (raw.take j)) secs x hxl (cvs raw, secs) hout (by rw [wrap64_nat j (by omega)]; exact hrec) x 0 rfl (Nat.zero_le _)
    refine Ev.step (f := fun k => laws_expr.l1 k [] raw (raw.length : Int) (j : Int) x (x.length : Int) 0 (cvs (raw.take j)) secs) (fun k => ?_) h1
    simp only [laws_expr.l0, hrd]
    rw [if_pos (by omega), if_pos (by omega), if_pos (by omega)]
theorem expr_ev (raw : List (List Ro)) (secs : Bool) (h : fitsB raw = true) : Ev (fun k => laws_expr.f k raw secs) (cvs raw, secs) :=
  expr_from raw secs h raw 0 rfl (Nat.zero_le _)
theorem cvs_len {raw : List (List Ro)} (h : fitsB raw = true) : ∀ l ∈ cvs raw, l.length < 4611686018427387904 := by
  intro l hl
  unfold cvs at hl
  obtain ⟨m, hm, rfl⟩ := List.mem_map.1 hl
  have := (fitsB_spec h).2 m hm
  rw [List.length_map]
  omega
end Go.Proofs.YtemgofomhjabpaaGreatDoor.Core
namespace Go.Proofs.YtemgofomhjabpaaGreatDoor.Core
open Go.RowKit Go.Proofs.YtemgofomhjabpaaGreatDoorW.PrintWords
theorem goodM_spec {y mo d h mi s : Int} (hM : goodM y mo d h mi s = true) : DateOk y mo d ∧ ClockOk h mi s := by
  obtain ⟨a0, a1, a2, a3, a4, a5, a6, a7, a8, a9, a10, a11⟩ := of_decide_eq_true hM
  exact ⟨⟨by omega, by omega, a2, a3, a4, a5⟩, ⟨a6, a7, a8, a9, a10, a11⟩⟩
theorem asked_ev (Fs : List (List It)) (secs : Bool) (hl : ∀ l ∈ Fs, l.length < 4611686018427387904) (y mo d h mi s : Int) : Ev (fun k => laws_asked.f k Fs secs y mo d h mi s) (goodE Fs secs && goodM y mo d h mi s) := by
  unfold laws_asked.f
  refine Ev.bind (exprGood_ev Fs secs hl) ?_
  cases goodE Fs secs with
  | false => exact Ev.congr (fun k => if_neg (by simp)) (Ev.now false)
  | true =>
    simp only [if_true, laws_moment.f, Option.bind_some, goodM_eq, Bool.true_and]
    exact Ev.now _
end Go.Proofs.YtemgofomhjabpaaGreatDoor.Core
namespace Go.Proofs.YtemgofomhjabpaaGreatDoor.Core
open Go.RowKit Go.Proofs.YtemgofomhjabpaaGreatDoorW.PrintWords
set_option maxRecDepth 100000 in
set_option maxHeartbeats 1600000 in
theorem fl_unfit (A : Option Addr) (c : Nat) (raw : List (List Ro)) (secs : Bool) (y mo d h mi s field : Int) (w : World) (hr : Kd.C (Kd.slice 69 k69) w A raw.length raw) (hc : raw.length ≤ c) (k : Nat) (hf : laws_zzFits1.f k raw secs = some false) :
    Calls Tryz.prog 3 #[.agg #[.slice A raw.length c, .bool secs], .agg #[.int .i64 y, .int .i64 mo, .int .i64 d, .int .i64 h, .int .i64 mi, .int .i64 s], .int .i64 field] w fun e w' => e = .returned (.bool true) ∧ Below w.heap.size w w' := by
  have hf := Aside0.mk hf
  have hr := Aside0.mk hr
  go_enter Tryz.func3, Tryz.ntmps3
  go_wp2_with (first | (go_at_call 11; refine (laws_zzFits1.calls k A c raw secs _ _ (Kd.C_below hr.out (by repeat (first | exact Below.refl _ _ | apply below_alloc | apply below_drew1))) hc hf.out).mono ?_; rintro e w1 ⟨rfl, hb1⟩))
  go_ret
  exact ⟨rfl, below_step (by repeat (first | exact Below.refl _ _ | apply below_alloc | apply below_drew1)) hb1⟩
def FE (n7 n1 : Nat) (v0 : Value) (b : Bool) (y mo d h mi s : Int) (w' : World) : Prop := w'.cell? ⟨n7, 0, none⟩ = some v0 ∧ w'.cell? ⟨n7, 1, none⟩ = some (.bool b) ∧ w'.cell? ⟨n1, 0, none⟩ = some (.int .i64 y) ∧ w'.cell? ⟨n1, 1, none⟩ = some (.int .i64 mo) ∧ w'.cell? ⟨n1, 2, none⟩ = some (.int .i64 d) ∧ w'.cell? ⟨n1, 3, none⟩ = some (.int .i64 h) ∧ w'.cell? ⟨n1, 4, none⟩ = some (.int .i64 mi) ∧ w'.cell? ⟨n1, 5, none⟩ = some (.int .i64 s)
theorem FE.below {n7 n1 : Nat} {v0 : Value} {b : Bool} {y mo d h mi s : Int} {u v : World} (hb : Below u.heap.size u v) (hS : FE n7 n1 v0 b y mo d h mi s u) : FE n7 n1 v0 b y mo d h mi s v := by
  obtain ⟨h0, h1, h2, h3, h4, h5, h6, h7⟩ := hS
  exact ⟨cell_after hb h0, cell_after hb h1, cell_after hb h2, cell_after hb h3, cell_after hb h4, cell_after hb h5, cell_after hb h6, cell_after hb h7⟩
def FB (n : Nat) (v0 : Value) (b : Bool) (y mo d h mi s : Int) (w' : World) : Prop := w'.cell? ⟨n, 0, none⟩ = some v0 ∧ w'.cell? ⟨n, 1, none⟩ = some (.bool b) ∧ w'.cell? ⟨n + 1, 0, none⟩ = some (.int .i64 y) ∧ w'.cell? ⟨n + 1, 1, none⟩ = some (.int .i64 mo) ∧ w'.cell? ⟨n + 1, 2, none⟩ = some (.int .i64 d) ∧ w'.cell? ⟨n + 1, 3, none⟩ = some (.int .i64 h) ∧ w'.cell? ⟨n + 1, 4, none⟩ = some (.int .i64 mi) ∧ w'.cell? ⟨n + 1, 5, none⟩ = some (.int .i64 s)
theorem FB.below {n : Nat} {v0 : Value} {b : Bool} {y mo d h mi s : Int} {u v : World} (hb : Below u.heap.size u v) (hS : FB n v0 b y mo d h mi s u) : FB n v0 b y mo d h mi s v := by
  obtain ⟨h0, h1, h2, h3, h4, h5, h6, h7⟩ := hS
  exact ⟨cell_after hb h0, cell_after hb h1, cell_after hb h2, cell_after hb h3, cell_after hb h4, cell_after hb h5, cell_after hb h6, cell_after hb h7⟩
theorem FB.new (w : World) (v0 : Value) (b : Bool) (y mo d h mi s : Int) (t t2 : TypeId) : FB w.heap.size v0 b y mo d h mi s ((w.alloc (.cells #[v0, .bool b] t)).alloc (.cells #[.int .i64 y, .int .i64 mo, .int .i64 d, .int .i64 h, .int .i64 mi, .int .i64 s] t2)) := by
  refine ⟨by simp [go_sem], by simp [go_sem], by simp [go_sem], by simp [go_sem], by simp [go_sem], by simp [go_sem], by simp [go_sem], by simp [go_sem]⟩
set_option maxRecDepth 100000 in
set_option maxHeartbeats 1600000 in
theorem fl_unasked (A : Option Addr) (c : Nat) (raw : List (List Ro)) (secs : Bool) (y mo d h mi s field : Int) (w : World) (hr : Kd.C (Kd.slice 69 k69) w A raw.length raw) (hc : raw.length ≤ c) (k : Nat) (hf : laws_zzFits1.f k raw secs = some true) (Fs : List (List It)) (he : laws_expr.f k raw secs = some (Fs, secs)) (ha : laws_asked.f k Fs secs y mo d h mi s = some false) :
    Calls Tryz.prog 3 #[.agg #[.slice A raw.length c, .bool secs], .agg #[.int .i64 y, .int .i64 mo, .int .i64 d, .int .i64 h, .int .i64 mi, .int .i64 s], .int .i64 field] w fun e w' => e = .returned (.bool true) ∧ Below w.heap.size w w' := by
  have hf := Aside0.mk hf
  have hr := Aside0.mk hr
  have he := Aside0.mk he
  have ha := Aside0.mk ha
  have hin : ∀ W : World, Below w.heap.size w W → Kd.C (Kd.slice 69 k69) W A raw.length raw := fun W hb => Kd.C_below hr.out hb
  have hin := Aside0.mk hin
  have hB0 : Below w.heap.size w ((w.alloc (.cells #[.slice A raw.length c, .bool secs] 24)).alloc (.cells #[.int .i64 y, .int .i64 mo, .int .i64 d, .int .i64 h, .int .i64 mi, .int .i64 s] 26)) := below_alloc (below_alloc (Below.refl _ _) _) _
  have hB0 := Aside0.mk hB0
  go_enter Tryz.func3, Tryz.ntmps3
  go_wp2_with (first | (go_at_call 11; refine (laws_zzFits1.calls k A c raw secs _ _ (hin.out _ hB0.out) hc hf.out).mono ?_; rintro e w1 ⟨rfl, hb1⟩; have hB1 := Aside0.mk (below_step hB0.out hb1); obtain ⟨z0, z1, z2, z3, z4, z5, z6, z7⟩ := FB.below hb1 (FB.new w _ _ _ _ _ _ _ _ _ _)) | (go_at_call 12; refine (laws_expr.calls k A c raw secs _ _ _ (hin.out _ hB1.out) hc he.out).mono ?_; rintro e w2 ⟨v2, rfl, hS, hb2⟩; obtain ⟨A2, c2, rfl⟩ := Kd.S_slice hS; obtain ⟨y0, y1, y2, y3, y4, y5, y6, y7⟩ := FB.below hb2 ⟨z0, z1, z2, z3, z4, z5, z6, z7⟩; have hB2 := Aside0.mk (below_step hB1.out hb2); obtain ⟨x0, x1, x2, x3, x4, x5, x6, x7⟩ := FB.below ((Below.refl w2.heap.size w2).alloc (Nat.le_refl _) (.cells #[.slice A2 Fs.length c2, .bool secs] 30)) ⟨y0, y1, y2, y3, y4, y5, y6, y7⟩) | (go_at_call 13; refine (laws_asked.calls k A2 c2 Fs secs y mo d h mi s _ _ (Kd.C_below (Kd.S_reads' hS).2.2 (by repeat (first | exact Below.refl _ _ | apply below_alloc | apply below_set0))) (Kd.S_reads' hS).2.1 ha.out).mono ?_; rintro e w3 ⟨rfl, hb3⟩))
  go_ret
  exact ⟨rfl, below_step (below_alloc hB2.out _) hb3⟩
set_option maxRecDepth 100000 in
set_option maxHeartbeats 1600000 in
theorem fl_low (A : Option Addr) (c : Nat) (raw : List (List Ro)) (secs : Bool) (y mo d h mi s field : Int) (w : World) (hr : Kd.C (Kd.slice 69 k69) w A raw.length raw) (hc : raw.length ≤ c) (k : Nat) (hf : laws_zzFits1.f k raw secs = some true) (Fs : List (List It)) (he : laws_expr.f k raw secs = some (Fs, secs)) (ha : laws_asked.f k Fs secs y mo d h mi s = some true) (hl : field < 1) :
    Calls Tryz.prog 3 #[.agg #[.slice A raw.length c, .bool secs], .agg #[.int .i64 y, .int .i64 mo, .int .i64 d, .int .i64 h, .int .i64 mi, .int .i64 s], .int .i64 field] w fun e w' => e = .returned (.bool true) ∧ Below w.heap.size w w' := by
  have hf := Aside0.mk hf
  have hr := Aside0.mk hr
  have he := Aside0.mk he
  have ha := Aside0.mk ha
  have hin : ∀ W : World, Below w.heap.size w W → Kd.C (Kd.slice 69 k69) W A raw.length raw := fun W hb => Kd.C_below hr.out hb
  have hin := Aside0.mk hin
  have hB0 : Below w.heap.size w ((w.alloc (.cells #[.slice A raw.length c, .bool secs] 24)).alloc (.cells #[.int .i64 y, .int .i64 mo, .int .i64 d, .int .i64 h, .int .i64 mi, .int .i64 s] 26)) := below_alloc (below_alloc (Below.refl _ _) _) _
  have hB0 := Aside0.mk hB0
  have l1 : decide (field < 1) = true := decide_eq_true hl
  go_enter Tryz.func3, Tryz.ntmps3
  go_wp2_with (first | (go_at_call 11; refine (laws_zzFits1.calls k A c raw secs _ _ (hin.out _ hB0.out) hc hf.out).mono ?_; rintro e w1 ⟨rfl, hb1⟩; have hB1 := Aside0.mk (below_step hB0.out hb1); obtain ⟨z0, z1, z2, z3, z4, z5, z6, z7⟩ := FB.below hb1 (FB.new w _ _ _ _ _ _ _ _ _ _)) | (go_at_call 12; refine (laws_expr.calls k A c raw secs _ _ _ (hin.out _ hB1.out) hc he.out).mono ?_; rintro e w2 ⟨v2, rfl, hS, hb2⟩; obtain ⟨A2, c2, rfl⟩ := Kd.S_slice hS; obtain ⟨y0, y1, y2, y3, y4, y5, y6, y7⟩ := FB.below hb2 ⟨z0, z1, z2, z3, z4, z5, z6, z7⟩; have hB2 := Aside0.mk (below_step hB1.out hb2); obtain ⟨x0, x1, x2, x3, x4, x5, x6, x7⟩ := FB.below ((Below.refl w2.heap.size w2).alloc (Nat.le_refl _) (.cells #[.slice A2 Fs.length c2, .bool secs] 30)) ⟨y0, y1, y2, y3, y4, y5, y6, y7⟩) | (go_at_call 13; refine (laws_asked.calls k A2 c2 Fs secs y mo d h mi s _ _ (Kd.C_below (Kd.S_reads' hS).2.2 (by repeat (first | exact Below.refl _ _ | apply below_alloc | apply below_set0))) (Kd.S_reads' hS).2.1 ha.out).mono ?_; rintro e w3 ⟨rfl, hb3⟩))
  go_ret
  exact ⟨rfl, below_step (below_alloc hB2.out _) hb3⟩
set_option maxRecDepth 100000 in
set_option maxHeartbeats 1600000 in
theorem fl_high (A : Option Addr) (c : Nat) (raw : List (List Ro)) (secs : Bool) (y mo d h mi s field : Int) (w : World) (hr : Kd.C (Kd.slice 69 k69) w A raw.length raw) (hc : raw.length ≤ c) (k : Nat) (hf : laws_zzFits1.f k raw secs = some true) (Fs : List (List It)) (he : laws_expr.f k raw secs = some (Fs, secs)) (ha : laws_asked.f k Fs secs y mo d h mi s = some true) (hl : 5 < field) :
    Calls Tryz.prog 3 #[.agg #[.slice A raw.length c, .bool secs], .agg #[.int .i64 y, .int .i64 mo, .int .i64 d, .int .i64 h, .int .i64 mi, .int .i64 s], .int .i64 field] w fun e w' => e = .returned (.bool true) ∧ Below w.heap.size w w' := by
  have hf := Aside0.mk hf
  have hr := Aside0.mk hr
  have he := Aside0.mk he
  have ha := Aside0.mk ha
  have hin : ∀ W : World, Below w.heap.size w W → Kd.C (Kd.slice 69 k69) W A raw.length raw := fun W hb => Kd.C_below hr.out hb
  have hin := Aside0.mk hin
  have hB0 : Below w.heap.size w ((w.alloc (.cells #[.slice A raw.length c, .bool secs] 24)).alloc (.cells #[.int .i64 y, .int .i64 mo, .int .i64 d, .int .i64 h, .int .i64 mi, .int .i64 s] 26)) := below_alloc (below_alloc (Below.refl _ _) _) _
  have hB0 := Aside0.mk hB0
  have l1 : decide (field < 1) = false := decide_eq_false (by omega)
  have l2 : ¬ field < 1 := by omega
  have l3 : decide (5 < field) = true := decide_eq_true hl
  go_enter Tryz.func3, Tryz.ntmps3
  go_wp2_with (first | (go_at_call 11; refine (laws_zzFits1.calls k A c raw secs _ _ (hin.out _ hB0.out) hc hf.out).mono ?_; rintro e w1 ⟨rfl, hb1⟩; have hB1 := Aside0.mk (below_step hB0.out hb1); obtain ⟨z0, z1, z2, z3, z4, z5, z6, z7⟩ := FB.below hb1 (FB.new w _ _ _ _ _ _ _ _ _ _)) | (go_at_call 12; refine (laws_expr.calls k A c raw secs _ _ _ (hin.out _ hB1.out) hc he.out).mono ?_; rintro e w2 ⟨v2, rfl, hS, hb2⟩; obtain ⟨A2, c2, rfl⟩ := Kd.S_slice hS; obtain ⟨y0, y1, y2, y3, y4, y5, y6, y7⟩ := FB.below hb2 ⟨z0, z1, z2, z3, z4, z5, z6, z7⟩; have hB2 := Aside0.mk (below_step hB1.out hb2); obtain ⟨x0, x1, x2, x3, x4, x5, x6, x7⟩ := FB.below ((Below.refl w2.heap.size w2).alloc (Nat.le_refl _) (.cells #[.slice A2 Fs.length c2, .bool secs] 30)) ⟨y0, y1, y2, y3, y4, y5, y6, y7⟩) | (go_at_call 13; refine (laws_asked.calls k A2 c2 Fs secs y mo d h mi s _ _ (Kd.C_below (Kd.S_reads' hS).2.2 (by repeat (first | exact Below.refl _ _ | apply below_alloc | apply below_set0))) (Kd.S_reads' hS).2.1 ha.out).mono ?_; rintro e w3 ⟨rfl, hb3⟩))
  go_ret
  exact ⟨rfl, below_step (below_alloc hB2.out _) hb3⟩
end Go.Proofs.YtemgofomhjabpaaGreatDoor.Core
namespace Go.Proofs.YtemgofomhjabpaaGreatDoor.Core
set_option linter.unusedSimpArgs false
open Go.RowKit Go.Proofs.YtemgofomhjabpaaGreatDoorW.PrintWords Go.Proofs.YtemgofomhjabpaaGreatDoorW.PrintLast Go.Proofs.YtemgofomhjabpaaGreatDoorW.PrintMore
def flT11 : Bool × List (List Nat × List Nat) := (true, [([], []), ([], []), ([1], [1]), ([0, 2], [0, 2]), ([], []), ([4], [4]), ([3, 5], [3, 5]), ([], []), ([7, 6, 3, 0, 1, 2, 3, 4, 5, 6, 7], [6, 7])])
def flB11 : List Nat := [0, 0, 2, 7, 0, 16, 63, 0, 255]
theorem fl_tab11 : rtab .any (opsOf Tryz.f3 11) = flT11 := by kernel_rfl
theorem fl_bits11 : waitsOk flT11.2 flB11 = true := by kernel_rfl
theorem one_row (W : World) (x : It) : Kd.F k38 (W.alloc (.cells #[.bool x.f0, .int .i64 x.f1, .int .i64 x.f2, .int .i64 x.f3] 38)) (fun k => k = W.heap.size) (some ⟨W.heap.size, 0, none⟩) [x].length [x] := by
  intro W' hW'
  have hb := hW' W.heap.size rfl (by simp)
  rw [heap_alloc_new] at hb
  refine ⟨rfl, by simp, fun _ => ⟨_, rfl, fun j p hj => ?_⟩⟩
  have hj0 : j = 0 := by
    have := (List.getElem?_eq_some_iff.1 hj).1
    simpa using this
  subst hj0
  obtain rfl : x = p := by simpa using hj
  refine ⟨[.bool x.f0, .int .i64 x.f1, .int .i64 x.f2, .int .i64 x.f3], rfl, Kd.K_of_M _ (k38_mkM W' 0 (fun _ => True) x), fun i u hu => ?_⟩
  rw [add_plain, blk_cell hb]
  simpa [k38] using hu
set_option maxRecDepth 100000 in
set_option maxHeartbeats 1600000 in
theorem fl_main (A : Option Addr) (c : Nat) (raw : List (List Ro)) (secs : Bool) (y mo d h mi s field : Int) (w : World) (hr : Kd.C (Kd.slice 69 k69) w A raw.length raw) (hc : raw.length ≤ c) (k : Nat) (hf : laws_zzFits1.f k raw secs = some true) (Fs : List (List It)) (he : laws_expr.f k raw secs = some (Fs, secs)) (ha : laws_asked.f k Fs secs y mo d h mi s = some true) (hl : 1 ≤ field) (hh : field ≤ 5) (h6 : Aside0 (Fs.length = 6)) (t : ByteArray) (ht : spec_Text.f k Fs secs = some t) (due : Bool) (hdue : DueC t y mo d h mi s due true) (l : List It) (hL : rd_L5 Fs field = l) (g : It → Bool)
    (hone : Aside0 (∀ x ∈ l, ∃ k' t', spec_Text.f k' (Fs.set field.toNat [x]) secs = some t' ∧ DueC t' y mo d h mi s (g x) true)) (hres : Aside0 (due = l.any g)) :
    Calls Tryz.prog 3 #[.agg #[.slice A raw.length c, .bool secs], .agg #[.int .i64 y, .int .i64 mo, .int .i64 d, .int .i64 h, .int .i64 mi, .int .i64 s], .int .i64 field] w fun e w' => e = .returned (.bool true) ∧ Below w.heap.size w w' := by
  have hf := Aside0.mk hf
  have hr := Aside0.mk hr
  have he := Aside0.mk he
  have ha := Aside0.mk ha
  have hin : ∀ W : World, Below w.heap.size w W → Kd.C (Kd.slice 69 k69) W A raw.length raw := fun W hb => Kd.C_below hr.out hb
  have hin := Aside0.mk hin
  have hB0 : Below w.heap.size w ((w.alloc (.cells #[.slice A raw.length c, .bool secs] 24)).alloc (.cells #[.int .i64 y, .int .i64 mo, .int .i64 d, .int .i64 h, .int .i64 mi, .int .i64 s] 26)) := below_alloc (below_alloc (Below.refl _ _) _) _
  have hB0 := Aside0.mk hB0
  have ht := Aside0.mk ht
  have hdue := Aside0.mk hdue
  have l1 : decide (field < 1) = false := decide_eq_false (by omega)
  have l2 : ¬ field < 1 := by omega
  have l3 : decide (5 < field) = false := decide_eq_false (by omega)
  have l4 : ¬ 5 < field := by omega
  go_enter Tryz.func3, Tryz.ntmps3
  go_wp2_with (first | (go_at_call 11; refine (laws_zzFits1.calls k A c raw secs _ _ (hin.out _ hB0.out) hc hf.out).mono ?_; rintro e w1 ⟨rfl, hb1⟩; have hB1 := Aside0.mk (below_step hB0.out hb1); obtain ⟨z0, z1, z2, z3, z4, z5, z6, z7⟩ := FB.below hb1 (FB.new w _ _ _ _ _ _ _ _ _ _)) | (go_at_call 12; refine (laws_expr.calls k A c raw secs _ _ _ (hin.out _ hB1.out) hc he.out).mono ?_; rintro e w2 ⟨v2, rfl, hS, hb2⟩; obtain ⟨A2, c2, rfl⟩ := Kd.S_slice hS; obtain ⟨y0, y1, y2, y3, y4, y5, y6, y7⟩ := FB.below hb2 ⟨z0, z1, z2, z3, z4, z5, z6, z7⟩; have hB2 := Aside0.mk (below_step hB1.out hb2); obtain ⟨x0, x1, x2, x3, x4, x5, x6, x7⟩ := FB.below ((Below.refl w2.heap.size w2).alloc (Nat.le_refl _) (.cells #[.slice A2 Fs.length c2, .bool secs] 30)) ⟨y0, y1, y2, y3, y4, y5, y6, y7⟩) | (go_at_call 13; refine (laws_asked.calls k A2 c2 Fs secs y mo d h mi s _ _ (Kd.C_below (Kd.S_reads' hS).2.2 (by repeat (first | exact Below.refl _ _ | apply below_alloc | apply below_set0))) (Kd.S_reads' hS).2.1 ha.out).mono ?_; rintro e w3 ⟨rfl, hb3⟩))
  have hC2 := Aside0.mk (Kd.S_reads' hS).2.2
  have hV2 := Aside0.mk (Kd.V_mono (Kd.V_bound (Kd.S_V (base' := 0) hS)) (fun _ hk => hk.2))
  have hl2 := (Kd.S_reads' hS).2.1
  have hB3 := Aside0.mk (below_step (below_alloc hB2.out _) hb3)
  obtain ⟨u0, u1, u2, u3, u4, u5, u6, u7⟩ := FB.below hb3 ⟨x0, x1, x2, x3, x4, x5, x6, x7⟩
  have e0 : w3.cell? ⟨w2.heap.size, 0, none⟩ = some (.slice A2 Fs.length c2) := cell_after hb3 (by simp [go_sem])
  have e1 : w3.cell? ⟨w2.heap.size, 1, none⟩ = some (.bool secs) := cell_after hb3 (by simp [go_sem])
  have hV3 := Aside0.mk (Kd.V_below (Kd.V_below hV2.out ((Below.refl w2.heap.size w2).alloc (Nat.le_refl _) (.cells #[.slice A2 Fs.length c2, .bool secs] 30))) hb3)
  have hm3 : Aside0 (w2.heap.size ≤ w3.heap.size) := ⟨Nat.le_trans (Nat.le_of_lt (by simp [go_sem])) hb3.size⟩
  have hC3 := Aside0.mk (Kd.C_below (Kd.C_below hC2.out ((Below.refl w2.heap.size w2).alloc (Nat.le_refl _) _)) hb3)
  have fe3 : FE w2.heap.size (w.heap.size + 1) (.slice A2 Fs.length c2) secs y mo d h mi s w3 := ⟨e0, e1, u2, u3, u4, u5, u6, u7⟩
  have fe3d : FE w2.heap.size (w.heap.size + 1) (.slice A2 Fs.length c2) secs y mo d h mi s w3.drew := FE.below ((Below.refl w3.heap.size w3).drew) fe3
  generalize w2.heap.size = n7 at fe3 fe3d hV3 hm3 ⊢
  generalize w.heap.size + 1 = n1 at *
  clear hV2 hC2 hb1 hb2 hb3 x0 x1 x2 x3 x4 x5 x6 x7 y0 y1 y2 y3 y4 y5 y6 y7 z0 z1 z2 z3 z4 z5 z6 z7 u0 u1 u2 u3 u4 u5 u6 u7 e0 e1 hS fe3 hB1 hB2 hB0
  go_region_held (fun w' => w'.cell? ⟨n7, 0, none⟩ = some (.slice A2 Fs.length c2) ∧ w'.cell? ⟨n7, 1, none⟩ = some (.bool secs) ∧ w'.cell? ⟨n1, 0, none⟩ = some (.int .i64 y) ∧ w'.cell? ⟨n1, 1, none⟩ = some (.int .i64 mo) ∧ w'.cell? ⟨n1, 2, none⟩ = some (.int .i64 d) ∧ w'.cell? ⟨n1, 3, none⟩ = some (.int .i64 h) ∧ w'.cell? ⟨n1, 4, none⟩ = some (.int .i64 mi) ∧ w'.cell? ⟨n1, 5, none⟩ = some (.int .i64 s))
    (first | exact fe3d | assumption | exact FE.below hb5 (by assumption) | exact FE.below hb4 (by assumption)) (first | (go_at_call 15; refine (spec_Text.calls k A2 c2 Fs secs _ _ (Kd.C_drew hC3.out) hl2 ht.out).mono ?_; rintro e w4 ⟨rfl, hb4⟩) | (go_at_call 14; refine (hdue.out _).mono ?_; rintro e w5 ⟨rfl, hb5⟩))
  rename_i hHeld
  have hC5 := Aside0.mk (Kd.C_below (Kd.C_below (Kd.C_drew hC3.out) hb4) hb5)
  have hB5 := Aside0.mk (below_step (below_step (hB3.out.drew) hb4) hb5)
  have hV5 := Aside0.mk (Kd.V_below (Kd.V_below (Kd.V_drew hV3.out) hb4) hb5)
  have hm5 : Aside0 (n7 ≤ w5.heap.size) := ⟨Nat.le_trans hm3.out (Nat.le_trans hb4.size hb5.size)⟩
  obtain ⟨e0, e1, m0, m1, m2, m3, m4, m5⟩ : FE n7 n1 (.slice A2 Fs.length c2) secs y mo d h mi s w5 := hHeld
  have fe5 := Aside0.mk (show FE n7 n1 (.slice A2 Fs.length c2) secs y mo d h mi s w5 from ⟨e0, e1, m0, m1, m2, m3, m4, m5⟩)
  obtain ⟨adF, Aj, cj, rfl, hFj, hlj, hCj⟩ := at_L5 hC5.out field (by omega) (by have := h6.out; omega)
  rw [hL] at hFj hlj hCj
  have hCj := Aside0.mk hCj
  have hL := Aside0.mk hL
  have p0 : 0 ≤ field := by omega
  have q0 : field < (Fs.length : Int) := by have := h6.out; omega
  clear hb4 hb5 hC3 hV3 hm3 hB3
  go_wp2
  go_loopg [46, 10] l.length (fun kq v46 v10 w' => ∃ j : Nat, v46 = .int .i64 (j : Int) ∧ v10 = .bool ((l.take j).any g) ∧ Aside0 (kq + j = l.length) ∧ Aside0 (Below w5.heap.size w5 w'))
  case atStart => exact ⟨0, rfl, rfl, ⟨rfl⟩, ⟨Below.refl _ _⟩⟩
  case round =>
    obtain ⟨j, rfl, rfl, HK, HW⟩ := hrel
    by_cases hj : j < l.length
    · have qj : (j : Int) < (l.length : Int) := by omega
      obtain ⟨adj, ea, x0, x1, x2, x3⟩ := at_T38 (Kd.C_below hCj.out HW.out) (j : Int) (by omega) qj
      obtain rfl := ea
      rw [rdI_at l j hj] at x0 x1 x2 x3
      rw [Int.toNat_natCast] at x0 x1 x2 x3
      have hxm : l[j] ∈ l := List.getElem_mem hj
      have hxt : Aside0 ((l.take (j + 1)).any g = ((l.take j).any g || g l[j])) := ⟨by rw [List.take_succ_eq_append_getElem hj, List.any_append]; simp⟩
      obtain ⟨k1, t1, ht1, hd1⟩ := hone.out _ hxm
      have ht1 := Aside0.mk ht1
      have hd1 := Aside0.mk hd1
      clear hxm
      generalize l[j] = x at x0 x1 x2 x3 ht1 hd1 hxt
      go_wp2
      have HX := Aside0.mk (below_alloc HW.out (.cells #[.bool x.f0, .int .i64 x.f1, .int .i64 x.f2, .int .i64 x.f3] 38))
      have BX := Aside0.mk (blk_new wr (.cells #[.bool x.f0, .int .i64 x.f1, .int .i64 x.f2, .int .i64 x.f3] 38))
      have hgx : Aside0 (w5.heap.size ≤ wr.heap.size) := ⟨HW.out.size⟩
      clear x0 x1 x2 x3
      generalize hW6 : wr.alloc (.cells #[.bool x.f0, .int .i64 x.f1, .int .i64 x.f2, .int .i64 x.f3] 38) = w6 at HX BX ⊢
      clear hW6
      generalize wr.heap.size = gx at hgx BX ⊢
      have hn : n7 ≤ w6.drew.heap.size := Nat.le_trans hm5.out HX.out.size
      have HF := Aside0.mk (Kd.F_drew (Kd.F_below (Kd.V_F hV5.out) HX.out))
      have BX' := Aside0.mk (blk_drew BX.out)
      have HX' := Aside0.mk (below_drew1 HX.out)
      have hheld : Aside0 (∀ W : World, Below w6.drew.heap.size w6.drew W → W.cell? ⟨n7, 0, none⟩ = some (.slice (some adF) Fs.length c2) ∧ W.cell? ⟨n7, 1, none⟩ = some (.bool secs)) := ⟨fun W hW => ⟨cell_after hW (cell_after HX'.out e0), cell_after hW (cell_after HX'.out e1)⟩⟩
      clear HX BX
      refine start_ (n := 9) (S := fun w' => w'.cell? ⟨n7, 0, none⟩ = some (.slice (some adF) Fs.length c2) ∧ w'.cell? ⟨n7, 1, none⟩ = some (.bool secs)) (ds := []) #[false, false, false, false, false, false, false, false, false] (by kernel_rfl) rfl rfl (hheld.out _ (Below.refl _ _)) (fun hHeld => ?_); refine with_tabW fl_tab11 fl_bits11 (fun HT_ HW_ => ?_)
      generalize w6.drew = w7 at hn HF BX' HX' hheld hHeld ⊢
      refine pure_ (i := 1) (N := some 51) (v := ?_) (a' := ?_) #[false, true, false, false, false, false, false, false, false] rfl rfl (any_of HT_.out (by kernel_rfl)) (fun _ _ _ h => h) (Or.inl ⟨by rfl, ?_⟩) ?_ ?_
      rotate_left
      · intro w'
        go_simp
        with_reducible rfl
      rotate_left
      · simp only [Act.put, List.setIfInBounds_toArray, List.set_cons_zero, List.set_cons_succ, i64_w, i32_w]
        rfl
      refine pure_ (i := 4) (N := some 54) (v := ?_) (a' := ?_) #[false, true, false, false, true, false, false, false, false] rfl rfl (any_of HT_.out (by kernel_rfl)) (fun _ _ _ h => h) (Or.inl ⟨by rfl, ?_⟩) ?_ ?_
      rotate_left
      · intro w'
        go_simp
        with_reducible rfl
      rotate_left
      · simp only [Act.put, List.setIfInBounds_toArray, List.set_cons_zero, List.set_cons_succ, i64_w, i32_w]
        rfl
      refine take_ (i := 2) (N := some 52) (v := ?_) (a' := ?_) #[false, true, true, false, true, false, false, false, false] rfl rfl (take_ofW HT_.out HW_.out (by kernel_rfl)) (fun _ _ _ h => h) (Or.inl ⟨by rfl, ?_⟩) hHeld ?_ ?_
      rotate_left
      · rintro w' ⟨s0, s1⟩
        go_simp
        with_reducible rfl
      rotate_left
      · simp only [Act.put, List.setIfInBounds_toArray, List.set_cons_zero, List.set_cons_succ, i64_w, i32_w]
        rfl
      refine take_ (i := 5) (N := some 55) (v := ?_) (a' := ?_) #[false, true, true, false, true, true, false, false, false] rfl rfl (take_ofW HT_.out HW_.out (by kernel_rfl)) (fun _ _ _ h => h) (Or.inl ⟨by rfl, ?_⟩) hHeld ?_ ?_
      rotate_left
      · rintro w' ⟨s0, s1⟩
        go_simp
        with_reducible rfl
      rotate_left
      · simp only [Act.put, List.setIfInBounds_toArray, List.set_cons_zero, List.set_cons_succ, i64_w, i32_w]
        rfl
      refine join_ (σ := Value × Value × Nat) 1 #[true, true, true, true, true, true, true, true, false] (fun s_ => [(50, s_.1), (53, s_.2.1), (13, .pointer (some ⟨s_.2.2, 0, none⟩)), (56, .agg #[s_.2.1, .bool secs])]) (fun s_ w' => (w'.cell? ⟨n7, 0, none⟩ = some (.slice (some adF) Fs.length c2) ∧ w'.cell? ⟨n7, 1, none⟩ = some (.bool secs)) ∧ Kd.N (Kd.slice 38 k38) 36 w' w7.heap.size (fun k => (k < n7 ∨ w7.heap.size ≤ k) ∧ k ≠ s_.2.2) s_.2.1 Fs ∧ w'.heap[s_.2.2]? = some (.cells #[.slice none 0 0, .bool false] 30 (0, 0)) ∧ w7.heap.size ≤ s_.2.2 ∧ Below w7.heap.size w7 w') ?_ ?_
      rotate_left
      · intro hCont
        refine two_ (i := 0) (j := 7) (Ni := some 50) (Nj := some 13) #[true, true, true, false, true, true, false, false, false] #[false, true, true, false, true, true, false, true, false] rfl rfl rfl rfl (two_of HT_.out (by kernel_rfl)) (by decide) (by decide) (fun K hK => ?_) (fun K hK => ?_)
        · refine Kd.N_lit_step (w0 := w7) (Kd.slice 38 k38) w7.heap.size 36 ?hg (N' := 50) ?hd (xs := ([] : List (List It))) (inner := []) (ok := fun k => k < n7 ∨ w7.heap.size ≤ k) (okp := fun _ => False) ?hr (Reps.none _ _) (fun _ hk => hk.elim) (.inr (Nat.le_refl _)) (Below.refl _ _) (Nat.le_refl _) (by simp) ?_; (case hd => rfl); (case hg => rfl); (case hr => first | (go_simp; done) | (go_simp; rfl))
          intro v50 w8 ho hb8 hg8 hnew8
          clear hg8 hnew8
          refine hK.out _ _ (hheld.out _ hb8) (fun hHeld => ?_)
          clear hK K
          refine norm_ (a' := ?_) ?_ ?_
          rotate_left
          · show Act.put _ (some 50) _ = _
            simp only [Act.put, List.setIfInBounds_toArray, List.set_cons_zero, List.set_cons_succ, i64_w, i32_w]
            rfl
          refine two_ (i := 3) (j := 7) (Ni := some 53) (Nj := some 13) #[true, true, true, true, true, true, false, false, false] #[true, true, true, false, true, true, false, true, false] rfl rfl rfl rfl (two_of HT_.out (by kernel_rfl)) (by decide) (by decide) (fun K hK => ?_) (fun K hK => ?_)
          · refine Kd.N_append_rows_step (Kd.slice 38 k38) (w0 := w7) w7.heap.size (by rfl) (.tmp 50) (.tmp 52) 28 36 (.slice none 0 0) 24 rfl Tryz.underlying28 info36 rfl (by decide) (by omega) v50 [] Fs _ _ _ (fun k => k < n7 ∨ w7.heap.size ≤ k) (fun k => k < n7) rfl rfl ho (Kd.F_below HF.out hb8) (fun k hk => ⟨.inl hk, fun e => by have := Kd.N_base ho k e.symm; omega⟩) (fun k hk => .inr (Nat.le_trans hb8.size hk)) hb8 hb8.size (by have := h6.out; simp only [List.length_nil]; omega) ?_
            intro v53 w9 ho9 hb9 hg9 hat9
            rw [List.nil_append] at ho9
            obtain ⟨A3, c3, e3⟩ := Kd.N_slice ho9
            subst e3
            have ge9 := hb9.size
            refine hK.out _ _ (hheld.out _ hb9) (fun hHeld => ?_)
            clear hK K
            refine norm_ (a' := ?_) ?_ ?_
            rotate_left
            · show Act.put _ (some 53) _ = _
              simp only [Act.put, List.setIfInBounds_toArray, List.set_cons_zero, List.set_cons_succ, i64_w, i32_w]
              rfl
            refine pure_ (i := 6) (N := some 56) (v := ?_) (a' := ?_) #[true, true, true, true, true, true, true, false, false] rfl rfl (any_of HT_.out (by kernel_rfl)) (fun _ _ _ h => h) (Or.inl ⟨by rfl, ?_⟩) ?_ ?_
            rotate_left
            · intro w'
              go_simp
              with_reducible rfl
            rotate_left
            · simp only [Act.put, List.setIfInBounds_toArray, List.set_cons_zero, List.set_cons_succ, i64_w, i32_w]
              rfl
            refine one_ (i := 7) (N := some 13) #[true, true, true, true, true, true, true, true, false] rfl rfl (one_of HT_.out (by kernel_rfl)) (by decide) (fun K hK => ?_)
            refine box_step ?hg (N := 13) ?hd (cs := #[.slice none 0 0, .bool false]) (t := 30) ?hr ?_; (case hd => rfl); (case hg => rfl); (case hr => first | (go_simp; done) | (go_simp; rfl))
            intro g13 hg13 wb hbox hbb
            have hbt := below_step hb9 hbb
            have hge : w7.heap.size ≤ g13 := by omega
            refine hK.out _ _ (hheld.out _ hbt) (fun hHeld => ?_)
            clear hK K
            refine norm_ (a' := ?_) ?_ ?_
            rotate_left
            · show Act.put _ (some 13) _ = _
              simp only [Act.put, List.setIfInBounds_toArray, List.set_cons_zero, List.set_cons_succ, i64_w, i32_w]
              rfl
            exact norm_ (by simp only [putAll, Act.put, List.setIfInBounds_toArray, List.set_cons_zero, List.set_cons_succ]) (hCont (v50, .slice A3 Fs.length c3, g13) _ ⟨hHeld, Kd.N_below (Kd.N_elderB ho9 g13 (Nat.le_of_eq hg13.symm)) hbb, hbox, hge, hbt⟩)
          · refine box_step ?hg (N := 13) ?hd (cs := #[.slice none 0 0, .bool false]) (t := 30) ?hr ?_; (case hd => rfl); (case hg => rfl); (case hr => first | (go_simp; done) | (go_simp; rfl))
            intro g13 hg13 wb hbox hbb
            have hbt := below_step hb8 hbb
            have hge : w7.heap.size ≤ g13 := by have := hb8.size; omega
            have hlt : g13 < wb.heap.size := blk_lt hbox
            have ho := Kd.N_below (Kd.N_elderB ho g13 (Nat.le_of_eq hg13.symm)) hbb
            refine hK.out _ _ (hheld.out _ hbt) (fun hHeld => ?_)
            clear hK K
            refine norm_ (a' := ?_) ?_ ?_
            rotate_left
            · show Act.put _ (some 13) _ = _
              simp only [Act.put, List.setIfInBounds_toArray, List.set_cons_zero, List.set_cons_succ, i64_w, i32_w]
              rfl
            refine one_ (i := 3) (N := some 53) #[true, true, true, true, true, true, false, true, false] rfl rfl (one_of HT_.out (by kernel_rfl)) (by decide) (fun K hK => ?_)
            refine Kd.N_append_rows_step (Kd.slice 38 k38) (w0 := w7) w7.heap.size (by rfl) (.tmp 50) (.tmp 52) 28 36 (.slice none 0 0) 24 rfl Tryz.underlying28 info36 rfl (by decide) (by omega) v50 [] Fs _ _ _ (fun k => (k < n7 ∨ w7.heap.size ≤ k) ∧ k ≠ g13) (fun k => k < n7) rfl rfl ho (Kd.F_below HF.out hbt) (fun k hk => ⟨⟨.inl hk, by omega⟩, fun e => by have := Kd.N_base ho k e.symm; omega⟩) (fun k hk => ⟨.inr (Nat.le_trans hbt.size hk), by omega⟩) hbt hbt.size (by have := h6.out; simp only [List.length_nil]; omega) ?_
            intro v53 w9 ho9 hb9 hg9 hat9
            rw [List.nil_append] at ho9
            obtain ⟨A3, c3, e3⟩ := Kd.N_slice ho9
            subst e3
            refine hK.out _ _ (hheld.out _ hb9) (fun hHeld => ?_)
            clear hK K
            refine norm_ (a' := ?_) ?_ ?_
            rotate_left
            · show Act.put _ (some 53) _ = _
              simp only [Act.put, List.setIfInBounds_toArray, List.set_cons_zero, List.set_cons_succ, i64_w, i32_w]
              rfl
            refine pure_ (i := 6) (N := some 56) (v := ?_) (a' := ?_) #[true, true, true, true, true, true, true, true, false] rfl rfl (any_of HT_.out (by kernel_rfl)) (fun _ _ _ h => h) (Or.inl ⟨by rfl, ?_⟩) ?_ ?_
            rotate_left
            · intro w'
              go_simp
              with_reducible rfl
            rotate_left
            · simp only [Act.put, List.setIfInBounds_toArray, List.set_cons_zero, List.set_cons_succ, i64_w, i32_w]
              rfl
            exact norm_ (by simp only [putAll, Act.put, List.setIfInBounds_toArray, List.set_cons_zero, List.set_cons_succ]) (hCont (v50, .slice A3 Fs.length c3, g13) _ ⟨hHeld, ho9, (blk_grown hbox hg9 (Kd.N_ne ho hbox (by decide))), hge, hb9⟩)
        · refine box_step ?hg (N := 13) ?hd (cs := #[.slice none 0 0, .bool false]) (t := 30) ?hr ?_; (case hd => rfl); (case hg => rfl); (case hr => first | (go_simp; done) | (go_simp; rfl))
          intro g13 hg13 wb hbox hbb
          have hge : w7.heap.size ≤ g13 := by omega
          have hlt : g13 < wb.heap.size := blk_lt hbox
          refine hK.out _ _ (hheld.out _ hbb) (fun hHeld => ?_)
          clear hK K
          refine norm_ (a' := ?_) ?_ ?_
          rotate_left
          · show Act.put _ (some 13) _ = _
            simp only [Act.put, List.setIfInBounds_toArray, List.set_cons_zero, List.set_cons_succ, i64_w, i32_w]
            rfl
          refine one_ (i := 0) (N := some 50) #[true, true, true, false, true, true, false, true, false] rfl rfl (one_of HT_.out (by kernel_rfl)) (by decide) (fun K hK => ?_)
          refine Kd.N_lit_step (w0 := w7) (Kd.slice 38 k38) w7.heap.size 36 ?hg (N' := 50) ?hd (xs := ([] : List (List It))) (inner := []) (ok := fun k => (k < n7 ∨ w7.heap.size ≤ k) ∧ k ≠ g13) (okp := fun _ => False) ?hr (Reps.none _ _) (fun _ hk => hk.elim) ⟨.inr hbb.size, by omega⟩ hbb hbb.size (by simp) ?_; (case hd => rfl); (case hg => rfl); (case hr => first | (go_simp; done) | (go_simp; rfl))
          intro v50 w8 ho hb8 hg8 hnew8
          have hbx8 := blk_grown hbox hg8 (by simp)
          have hlt8 : g13 < w8.heap.size := blk_lt hbx8
          refine hK.out _ _ (hheld.out _ hb8) (fun hHeld => ?_)
          clear hK K
          refine norm_ (a' := ?_) ?_ ?_
          rotate_left
          · show Act.put _ (some 50) _ = _
            simp only [Act.put, List.setIfInBounds_toArray, List.set_cons_zero, List.set_cons_succ, i64_w, i32_w]
            rfl
          refine one_ (i := 3) (N := some 53) #[true, true, true, true, true, true, false, true, false] rfl rfl (one_of HT_.out (by kernel_rfl)) (by decide) (fun K hK => ?_)
          refine Kd.N_append_rows_step (Kd.slice 38 k38) (w0 := w7) w7.heap.size (by rfl) (.tmp 50) (.tmp 52) 28 36 (.slice none 0 0) 24 rfl Tryz.underlying28 info36 rfl (by decide) (by omega) v50 [] Fs _ _ _ (fun k => (k < n7 ∨ w7.heap.size ≤ k) ∧ k ≠ g13) (fun k => k < n7) rfl rfl ho (Kd.F_below HF.out hb8) (fun k hk => ⟨⟨.inl hk, by omega⟩, fun e => by have := Kd.N_base ho k e.symm; omega⟩) (fun k hk => ⟨.inr (Nat.le_trans hb8.size hk), by omega⟩) hb8 hb8.size (by have := h6.out; simp only [List.length_nil]; omega) ?_
          intro v53 w9 ho9 hb9 hg9 hat9
          rw [List.nil_append] at ho9
          obtain ⟨A3, c3, e3⟩ := Kd.N_slice ho9
          subst e3
          refine hK.out _ _ (hheld.out _ hb9) (fun hHeld => ?_)
          clear hK K
          refine norm_ (a' := ?_) ?_ ?_
          rotate_left
          · show Act.put _ (some 53) _ = _
            simp only [Act.put, List.setIfInBounds_toArray, List.set_cons_zero, List.set_cons_succ, i64_w, i32_w]
            rfl
          refine pure_ (i := 6) (N := some 56) (v := ?_) (a' := ?_) #[true, true, true, true, true, true, true, true, false] rfl rfl (any_of HT_.out (by kernel_rfl)) (fun _ _ _ h => h) (Or.inl ⟨by rfl, ?_⟩) ?_ ?_
          rotate_left
          · intro w'
            go_simp
            with_reducible rfl
          rotate_left
          · simp only [Act.put, List.setIfInBounds_toArray, List.set_cons_zero, List.set_cons_succ, i64_w, i32_w]
            rfl
          exact norm_ (by simp only [putAll, Act.put, List.setIfInBounds_toArray, List.set_cons_zero, List.set_cons_succ]) (hCont (v50, .slice A3 Fs.length c3, g13) _ ⟨hHeld, ho9, (blk_grown hbx8 hg9 (Kd.N_ne ho hbx8 (by decide))), hge, hb9⟩)
      rintro ⟨v50, v53, g13⟩ w11 ⟨hHeld, hN, hbx, hge, hb11⟩
      have hN : Kd.N (Kd.slice 38 k38) 36 w11 w7.heap.size (fun k => (k < n7 ∨ w7.heap.size ≤ k) ∧ k ≠ g13) v53 Fs := hN
      have hbx : w11.heap[g13]? = some (.cells #[.slice none 0 0, .bool false] 30 (0, 0)) := hbx
      have hge : w7.heap.size ≤ g13 := hge
      have hHeld : w11.cell? ⟨n7, 0, none⟩ = some (.slice (some adF) Fs.length c2) ∧ w11.cell? ⟨n7, 1, none⟩ = some (.bool secs) := hHeld
      obtain ⟨g3, c3, e3, hg3, hg3s, cs3, hcs3⟩ := Kd.N_form hN (by have := h6.out; omega)
      subst e3
      have h133 : g13 ≠ g3 := blk_ne hbx hcs3 (by decide)
      have h713 : n7 ≠ g13 := by have := World.block_lt_of_cell? w7 ⟨n7, 0, none⟩ (hheld.out _ (Below.refl _ _)).1; have : n7 < w7.heap.size := this; omega
      refine norm_ (a' := ?_) ?_ ?_
      rotate_left
      · simp only [putAll, Act.put, List.setIfInBounds_toArray, List.set_cons_zero, List.set_cons_succ]
        rfl
      refine one_ (i := 8) (N := none) #[true, true, true, true, true, true, true, true, true] rfl rfl (one_of HT_.out (by kernel_rfl)) (by decide) (fun K hK => ?_)
      have hs0 : w11.cell? ⟨g13, 0, none⟩ = some (.slice none 0 0) := (blk_cell hbx 0).trans rfl
      have hs1 : w11.cell? ⟨g13, 1, none⟩ = some (.bool false) := (blk_cell hbx 1).trans rfl
      have hf0 := blk_frozen hbx 0
      have hf1 := blk_frozen hbx 1
      refine skip_ (w1 := ?_) (by rfl) rfl ?_ ?_
      rotate_left
      · go_simp
        rfl
      refine hK.out _ _ ⟨(cell_far (p := ⟨g13, _, none⟩) h713 _).trans ((cell_far (p := ⟨g13, _, none⟩) h713 _).trans hHeld.1), (cell_far (p := ⟨g13, _, none⟩) h713 _).trans ((cell_far (p := ⟨g13, _, none⟩) h713 _).trans hHeld.2)⟩ (fun hHeld => ?_)
      clear hK K hs0 hs1 hf0 hf1
      refine done_ (done_of HT_.out (by kernel_rfl)) ?_
      have hBK := Aside0.mk (blk_put (cs' := #[.slice (some ⟨g3, 0, none⟩) Fs.length c3, .bool secs]) (blk_put (cs' := #[.slice (some ⟨g3, 0, none⟩) Fs.length c3, .bool false]) hbx 0 (.slice (some ⟨g3, 0, none⟩) Fs.length c3) rfl) 1 (.bool secs) rfl)
      have hN12 := Aside0.mk (Kd.N_far (p := ⟨g13, 1, none⟩) (Kd.N_far (p := ⟨g13, 0, none⟩) hN (fun _ hk => hk.2) (.slice (some ⟨g3, 0, none⟩) Fs.length c3)) (fun _ hk => hk.2) (.bool secs))
      have hB12 := Aside0.mk (below_set (j := 1) (v := .bool secs) (below_set (j := 0) (v := .slice (some ⟨g3, 0, none⟩) Fs.length c3) hb11 hge) hge)
      clear hHeld hN hbx hb11 hcs3 hg3s HT_ HW_ h713 HF hheld
      generalize ((w11.setCell ⟨g13, 0, none⟩ (.slice (some ⟨g3, 0, none⟩) Fs.length c3)).setCell ⟨g13, 1, none⟩ (.bool secs)) = w12 at hBK hN12 hB12 ⊢
      have y0 : w12.cell? ⟨g13, 0, none⟩ = some (.slice (some ⟨g3, 0, none⟩) Fs.length c3) := (blk_cell hBK.out 0).trans rfl
      have y1 : w12.cell? ⟨g13, 1, none⟩ = some (.bool secs) := (blk_cell hBK.out 1).trans rfl
      have BX2 := Aside0.mk (blk_below BX'.out hB12.out)
      have xx0 : w12.cell? ⟨gx, 0, none⟩ = some (.bool x.f0) := (blk_cell BX2.out 0).trans rfl
      have xx1 : w12.cell? ⟨gx, 1, none⟩ = some (.int .i64 x.f1) := (blk_cell BX2.out 1).trans rfl
      have xx2 : w12.cell? ⟨gx, 2, none⟩ = some (.int .i64 x.f2) := (blk_cell BX2.out 2).trans rfl
      have xx3 : w12.cell? ⟨gx, 3, none⟩ = some (.int .i64 x.f3) := (blk_cell BX2.out 3).trans rfl
      obtain ⟨ce, hcl, hM, hcc, hfr⟩ := Kd.N_elem hN12.out [] field p0 q0
      obtain ⟨ua, uc, rfl, ul, hF3⟩ := Kd.FK_slice_open hM
      have z0 := hcc 0 _ rfl
      have zf := hfr 0
      simp only [show (Kd.slice 38 k38).sz = 1 from rfl, Nat.mul_one, Nat.add_zero] at z0 zf
      have hcl := Aside0.mk hcl
      have hcc := Aside0.mk hcc
      have hg3 := Aside0.mk hg3
      clear hM hfr hF3
      have hlt3 : g3 < w12.heap.size := World.block_lt_of_cell? w12 ⟨g3, field.toNat, none⟩ z0
      have hne3 : g3 ≠ w12.heap.size := Nat.ne_of_lt hlt3
      go_wp2
      have hlt13 : g13 < w12.heap.size := blk_lt hBK.out
      have hB7 : w7.heap.size ≤ w12.heap.size := hB12.out.size
      have hNs := Kd.N_seg (Kd.N_alloc hN12.out (.cells #[.bool x.f0, .int .i64 x.f1, .int .i64 x.f2, .int .i64 x.f3] 38)) field p0 q0 (seg := [.slice (some ⟨w12.heap.size, 0, none⟩) 1 1]) (j := 0) hcl.out (fun j u hu => pw_cell_below (below_alloc (Below.refl _ _) _) (hcc.out j u hu)) (show 1 ≤ 1 from by decide) (x' := [x]) (okp := fun k => k = w12.heap.size) (Kd.FK_slice_mk (c := 1) (A := some ⟨w12.heap.size, 0, none⟩) (Nat.le_refl 1) (one_row w12 x)) (fun k hk => ⟨⟨.inr (by omega), by omega⟩, by omega⟩)
      have hw13 : ((w12.alloc (.cells #[.bool x.f0, .int .i64 x.f1, .int .i64 x.f2, .int .i64 x.f3] 38)).setCells g3 (field.toNat * (Kd.slice 38 k38).sz + 0) [.slice (some ⟨w12.heap.size, 0, none⟩) 1 1]) = (w12.setCell ⟨g3, field.toNat, none⟩ (.slice (some ⟨w12.heap.size, 0, none⟩) 1 1)).alloc (.cells #[.bool x.f0, .int .i64 x.f1, .int .i64 x.f2, .int .i64 x.f3] 38) := by
        simp only [show (Kd.slice 38 k38).sz = 1 from rfl, Nat.mul_one, Nat.add_zero, World.setCells]
        go_simp
      rw [hw13] at hNs
      have hN13 := hNs.1
      clear hNs hw13
      have hB13 := Aside0.mk (below_alloc (below_set (j := field.toNat) (v := .slice (some ⟨w12.heap.size, 0, none⟩) 1 1) hB12.out hg3.out) (.cells #[.bool x.f0, .int .i64 x.f1, .int .i64 x.f2, .int .i64 x.f3] 38))
      have hBK13 := Aside0.mk (blk_alloc (blk_far (p := ⟨g3, field.toNat, none⟩) hBK.out h133 (.slice (some ⟨w12.heap.size, 0, none⟩) 1 1)) (.cells #[.bool x.f0, .int .i64 x.f1, .int .i64 x.f2, .int .i64 x.f3] 38))
      clear y0 y1 xx0 xx1 xx2 xx3 z0 zf hcl hcc hlt3 hne3 hN12 hB12 hBK BX2
      generalize (w12.setCell ⟨g3, field.toNat, none⟩ (.slice (some ⟨w12.heap.size, 0, none⟩) 1 1)).alloc (.cells #[.bool x.f0, .int .i64 x.f1, .int .i64 x.f2, .int .i64 x.f3] 38) = w13 at hN13 hB13 hBK13 ⊢
      have hC13 := (Kd.N_reads' hN13).2.2
      rw [List.length_set] at hC13
      have hC13 := Aside0.mk hC13
      have hl13 : Fs.length ≤ c3 := (Kd.N_reads' hN13).2.1
      have hcall := fun (W : World) (hC : Kd.C (Kd.slice 38 k38) W (some ⟨g3, 0, none⟩) (Fs.set field.toNat [x]).length (Fs.set field.toNat [x])) => spec_Text.calls k1 (some ⟨g3, 0, none⟩) c3 (Fs.set field.toNat [x]) secs t1 W hC (by rw [List.length_set]; exact hl13) ht1.out
      rw [List.length_set] at hcall
      have hcall := Aside0.mk hcall
      have fe13 : FE g13 n1 (.slice (some ⟨g3, 0, none⟩) Fs.length c3) secs y mo d h mi s w13.drew := ⟨(blk_cell hBK13.out 0).trans rfl, (blk_cell hBK13.out 1).trans rfl, cell_after hB13.out.drew (cell_after HX'.out m0), cell_after hB13.out.drew (cell_after HX'.out m1), cell_after hB13.out.drew (cell_after HX'.out m2), cell_after hB13.out.drew (cell_after HX'.out m3), cell_after hB13.out.drew (cell_after HX'.out m4), cell_after hB13.out.drew (cell_after HX'.out m5)⟩
      clear hN13 hBK13
      go_region_held (fun w' => w'.cell? ⟨g13, 0, none⟩ = some (.slice (some ⟨g3, 0, none⟩) Fs.length c3) ∧ w'.cell? ⟨g13, 1, none⟩ = some (.bool secs) ∧ w'.cell? ⟨n1, 0, none⟩ = some (.int .i64 y) ∧ w'.cell? ⟨n1, 1, none⟩ = some (.int .i64 mo) ∧ w'.cell? ⟨n1, 2, none⟩ = some (.int .i64 d) ∧ w'.cell? ⟨n1, 3, none⟩ = some (.int .i64 h) ∧ w'.cell? ⟨n1, 4, none⟩ = some (.int .i64 mi) ∧ w'.cell? ⟨n1, 5, none⟩ = some (.int .i64 s))
          (first | exact fe13 | assumption | exact FE.below hb15 (by assumption) | exact FE.below hb14 (by assumption)) (first | (go_at_call 15; refine (hcall.out _ (Kd.C_drew hC13.out)).mono ?_; rintro e w14 ⟨rfl, hb14⟩) | (go_at_call 14; refine (hd1.out _).mono ?_; rintro e w15 ⟨rfl, hb15⟩))
      rename_i hHeld
      clear hHeld
      have hB15 := Aside0.mk (below_step HX'.out (below_step (below_step hB13.out.drew hb14) hb15))
      clear hb14 hb15 fe13 hcall hC13 hB13 BX' HX'
      have hl9 : l.length ≤ 9223372036854775807 := hCj.out.2.1
      generalize (l.take j).any g = bv at hxt ⊢
      cases bv with
      | true =>
        go_wp2
        go_roundg (gk - 1)
        case measure => have := HK.out; omega
        case rel => exact ⟨j + 1, by simp, by rw [hxt.out]; simp, ⟨by have := HK.out; omega⟩, hB15⟩
      | false =>
        go_wp2
        go_roundg (gk - 1)
        case measure => have := HK.out; omega
        case rel => exact ⟨j + 1, by simp, by rw [hxt.out]; simp, ⟨by have := HK.out; omega⟩, hB15⟩
    · have hjl : j = l.length := by have := HK.out; omega
      have qj : ¬ ((j : Int) < (l.length : Int)) := by omega
      have hb : Aside0 ((due == l.any g) = true) := ⟨by rw [← hres.out]; simp⟩
      go_wp2
      go_ret
      exact ⟨by show Ending.returned (.bool (due == l.any g)) = _; rw [hb.out], below_step hB5.out HW.out⟩
end Go.Proofs.YtemgofomhjabpaaGreatDoor.Core
namespace Go.Proofs.YtemgofomhjabpaaGreatDoor.Core
open Go.RowKit Go.Proofs.YtemgofomhjabpaaGreatDoorW.PrintWords
theorem star_one {f : List It} {x : It} (h : starF f = true) (hx : x ∈ f) : f = [x] := by
  unfold starF at h
  split at h
  · rw [List.mem_singleton.1 hx]
  · cases h
theorem goodF_one {i : Nat} {f : List It} {x : It} (h : goodF i f = true) (hx : x ∈ f) : goodF i [x] = true := by
  have := (goodF_spec h).1 x hx
  simp [goodF, this]
theorem goodE_one {Fs : List (List It)} {secs : Bool} (hE : goodE Fs secs = true) (q : Nat) (q1 : 1 ≤ q) (q5 : q ≤ 5) (x : It) (hx : x ∈ Fs.getD q []) : goodE (Fs.set q [x]) secs = true := by
  obtain ⟨f0, f1, f2, f3, f4, f5, rfl, h0, h1, h2, h3, h4, h5, hr⟩ := goodE_spec hE
  have hr' := hr
  unfold restE at hr'
  simp only [Bool.and_eq_true] at hr'
  obtain ⟨⟨ra, rb⟩, rc⟩ := hr'
  rcases (show q = 1 ∨ q = 2 ∨ q = 3 ∨ q = 4 ∨ q = 5 by omega) with e | e | e | e | e <;> subst e
  · have hx' : x ∈ f1 := hx
    show (goodF 0 f0 && (goodF 1 [x] && (goodF 2 f2 && (goodF 3 f3 && (goodF 4 f4 && (goodF 5 f5 && restE f0 f3 f4 f5 secs)))))) = true
    rw [h0, goodF_one h1 hx', h2, h3, h4, h5, hr]; rfl
  · have hx' : x ∈ f2 := hx
    show (goodF 0 f0 && (goodF 1 f1 && (goodF 2 [x] && (goodF 3 f3 && (goodF 4 f4 && (goodF 5 f5 && restE f0 f3 f4 f5 secs)))))) = true
    rw [h0, h1, goodF_one h2 hx', h3, h4, h5, hr]; rfl
  · have hx' : x ∈ f3 := hx
    have hn : restE f0 [x] f4 f5 secs = true := by
      unfold restE
      simp only [Bool.and_eq_true]
      refine ⟨⟨ra, ?_⟩, ?_⟩
      · rw [Bool.or_eq_true] at rb ⊢
        rcases rb with e | e
        · rw [star_one e hx'] at e; exact .inl e
        · exact .inr e
      · rw [Bool.or_eq_true] at rc ⊢
        rcases rc with e | e
        · exact .inl e
        · refine .inr ?_
          have := List.all_eq_true.1 e x hx'
          simpa using this
    show (goodF 0 f0 && (goodF 1 f1 && (goodF 2 f2 && (goodF 3 [x] && (goodF 4 f4 && (goodF 5 f5 && restE f0 [x] f4 f5 secs)))))) = true
    rw [h0, h1, h2, goodF_one h3 hx', h4, h5, hn]; rfl
  · have hx' : x ∈ f4 := hx
    have hn : restE f0 f3 [x] f5 secs = true := by
      unfold restE
      simp only [Bool.and_eq_true]
      refine ⟨⟨ra, rb⟩, ?_⟩
      rw [Bool.or_eq_true] at rc ⊢
      rcases rc with e | e
      · rw [star_one e hx'] at e; exact .inl e
      · exact .inr e
    show (goodF 0 f0 && (goodF 1 f1 && (goodF 2 f2 && (goodF 3 f3 && (goodF 4 [x] && (goodF 5 f5 && restE f0 f3 [x] f5 secs)))))) = true
    rw [h0, h1, h2, h3, goodF_one h4 hx', h5, hn]; rfl
  · have hx' : x ∈ f5 := hx
    have hn : restE f0 f3 f4 [x] secs = true := by
      unfold restE
      simp only [Bool.and_eq_true]
      refine ⟨⟨ra, ?_⟩, rc⟩
      rw [Bool.or_eq_true] at rb ⊢
      rcases rb with e | e
      · exact .inl e
      · rw [star_one e hx'] at e; exact .inr e
    show (goodF 0 f0 && (goodF 1 f1 && (goodF 2 f2 && (goodF 3 f3 && (goodF 4 f4 && (goodF 5 [x] && restE f0 f3 f4 [x] secs)))))) = true
    rw [h0, h1, h2, h3, h4, goodF_one h5 hx', hn]; rfl
theorem any_mid {α : Type} (l : List α) (p : α → Bool) (a b : Bool) : (l.any fun x => a && (p x && b)) = (a && (l.any p && b)) := by
  cases a <;> cases b <;> simp
theorem fitB_six (f0 f1 f2 f3 f4 f5 : List It) (y mo d h mi s : Int) : fitB [f0, f1, f2, f3, f4, f5] y mo d h mi s = (hasF 0 f0 s && (hasF 1 f1 mi && (hasF 2 f2 h && (hasF 3 f3 d && (hasF 4 f4 mo && (hasF 5 f5 (wdI y mo d) && true)))))) := rfl
theorem hasF_one (i : Nat) (x : It) (n : Int) : hasF i [x] n = hasIt i x n := by simp [hasF]
theorem fit_any {Fs : List (List It)} {secs : Bool} (hE : goodE Fs secs = true) (q : Nat) (q1 : 1 ≤ q) (q5 : q ≤ 5) (y mo d h mi s : Int) : ((Fs.getD q []).any fun x => fitB (Fs.set q [x]) y mo d h mi s) = fitB Fs y mo d h mi s := by
  obtain ⟨f0, f1, f2, f3, f4, f5, rfl, h0, h1, h2, h3, h4, h5, hr⟩ := goodE_spec hE
  rcases (show q = 1 ∨ q = 2 ∨ q = 3 ∨ q = 4 ∨ q = 5 by omega) with e | e | e | e | e <;> subst e
  · show (f1.any fun x => fitB [f0, [x], f2, f3, f4, f5] y mo d h mi s) = _
    simp only [fitB_six, hasF_one]
    rw [any_mid]; rfl
  · show (f2.any fun x => fitB [f0, f1, [x], f3, f4, f5] y mo d h mi s) = _
    simp only [fitB_six, hasF_one]
    simp only [← Bool.and_assoc]
    generalize (hasF 0 f0 s && hasF 1 f1 mi) = A
    simp only [Bool.and_assoc]
    rw [any_mid]; rfl
  · show (f3.any fun x => fitB [f0, f1, f2, [x], f4, f5] y mo d h mi s) = _
    simp only [fitB_six, hasF_one]
    simp only [← Bool.and_assoc]
    generalize (hasF 0 f0 s && hasF 1 f1 mi && hasF 2 f2 h) = A
    simp only [Bool.and_assoc]
    rw [any_mid]; rfl
  · show (f4.any fun x => fitB [f0, f1, f2, f3, [x], f5] y mo d h mi s) = _
    simp only [fitB_six, hasF_one]
    simp only [← Bool.and_assoc]
    generalize (hasF 0 f0 s && hasF 1 f1 mi && hasF 2 f2 h && hasF 3 f3 d) = A
    simp only [Bool.and_assoc]
    rw [any_mid]; rfl
  · show (f5.any fun x => fitB [f0, f1, f2, f3, f4, [x]] y mo d h mi s) = _
    simp only [fitB_six, hasF_one]
    simp only [← Bool.and_assoc]
    generalize (hasF 0 f0 s && hasF 1 f1 mi && hasF 2 f2 h && hasF 3 f3 d && hasF 4 f4 mo) = A
    simp only [Bool.and_assoc]
    rw [any_mid]; rfl
end Go.Proofs.YtemgofomhjabpaaGreatDoor.Core
namespace Go.Proofs.YtemgofomhjabpaaGreatDoor.Core
open Go.RowKit Go.Proofs.YtemgofomhjabpaaGreatDoorW.PrintWords
theorem fnList_walk (A : Option Addr) (c : Nat) (raw : List (List Ro)) (secs : Bool) (y mo d h mi s field : Int) (w : World) (hr : Kd.C (Kd.slice 69 k69) w A raw.length raw) (hc : raw.length ≤ c) :
    Calls Tryz.prog 3 #[.agg #[.slice A raw.length c, .bool secs], .agg #[.int .i64 y, .int .i64 mo, .int .i64 d, .int .i64 h, .int .i64 mi, .int .i64 s], .int .i64 field] w fun e w' => e = .returned (.bool true) ∧ Below w.heap.size w w' := by
  obtain ⟨K1, h1⟩ := fits1_ev raw secs
  cases hf : fitsB raw with
  | false =>
    rw [hf] at h1
    exact fl_unfit A c raw secs y mo d h mi s field w hr hc K1 (h1 K1 (Nat.le_refl _))
  | true =>
    rw [hf] at h1
    obtain ⟨K2, h2⟩ := expr_ev raw secs hf
    obtain ⟨K3, h3⟩ := asked_ev (cvs raw) secs (cvs_len hf) y mo d h mi s
    cases hg : goodE (cvs raw) secs && goodM y mo d h mi s with
    | false =>
      rw [hg] at h3
      exact fl_unasked A c raw secs y mo d h mi s field w hr hc (max K1 (max K2 K3)) (h1 _ (by omega)) (cvs raw) (h2 _ (by omega)) (h3 _ (by omega))
    | true =>
      rw [hg] at h3
      simp only [Bool.and_eq_true] at hg
      obtain ⟨hE, hM⟩ := hg
      obtain ⟨hd, hcl⟩ := goodM_spec hM
      by_cases hlo : field < 1
      · exact fl_low A c raw secs y mo d h mi s field w hr hc (max K1 (max K2 K3)) (h1 _ (by omega)) (cvs raw) (h2 _ (by omega)) (h3 _ (by omega)) hlo
      by_cases hhi : 5 < field
      · exact fl_high A c raw secs y mo d h mi s field w hr hc (max K1 (max K2 K3)) (h1 _ (by omega)) (cvs raw) (h2 _ (by omega)) (h3 _ (by omega)) hhi
      obtain ⟨q, rfl⟩ : ∃ q : Nat, field = q := ⟨field.toNat, by omega⟩
      obtain ⟨K4, h4⟩ := text_ev (cvs raw) secs (goodE_fs hE)
      have hL : rd_L5 (cvs raw) (q : Int) = (cvs raw).getD q [] := by show (cvs raw).getD ((q : Int).toNat) [] = _; rw [Int.toNat_natCast]
      refine fl_main A c raw secs y mo d h mi s q w hr hc (max (max K1 K4) (max K2 K3)) (h1 _ (by omega)) (cvs raw) (h2 _ (by omega)) (h3 _ (by omega)) (by omega) (by omega) ⟨(goodE_fs hE).1⟩ _ (h4 _ (by omega)) _ (due_good hE hd hcl) _ hL (fun x => fitB ((cvs raw).set q [x]) y mo d h mi s) ⟨fun x hx => ?_⟩ ⟨(fit_any hE q (by omega) (by omega) y mo d h mi s).symm⟩
      have hE1 := goodE_one hE q (by omega) (by omega) x hx
      obtain ⟨K5, h5⟩ := text_ev ((cvs raw).set q [x]) secs (goodE_fs hE1)
      rw [Int.toNat_natCast]
      exact ⟨K5, _, h5 K5 (Nat.le_refl _), due_good hE1 hd hcl⟩
end Go.Proofs.YtemgofomhjabpaaGreatDoor.Core
namespace Go.Proofs.YtemgofomhjabpaaGreatDoor.Core
open Go.RowKit Go.Proofs.YtemgofomhjabpaaGreatDoorW.PrintWords Go.ChangeShapes Go.WideShapes Go.Deep
set_option maxRecDepth 100000
theorem rows_list {α : Type} {Q : Nat → α → Prop} (n : Nat) (h : ∀ i, i < n → ∃ x, Q i x) : ∃ l : List α, l.length = n ∧ ∀ j p, l[j]? = some p → Q j p := by
  induction n with
  | zero => exact ⟨[], rfl, fun j p hj => by simp at hj⟩
  | succ n ih =>
    obtain ⟨l, hl, hq⟩ := ih (fun i hi => h i (by omega))
    obtain ⟨x, hx⟩ := h n (by omega)
    refine ⟨l ++ [x], by simp [hl], fun j p hj => ?_⟩
    rcases Nat.lt_or_ge j l.length with h1 | h1
    · rw [List.getElem?_append_left h1] at hj
      exact hq j p hj
    · rw [List.getElem?_append_right h1] at hj
      have h2 : j - l.length = 0 := by
        rcases Nat.eq_zero_or_pos (j - l.length) with h3 | h3
        · exact h3
        · rw [List.getElem?_eq_none (by simp; omega)] at hj; cases hj
      rw [h2] at hj
      obtain rfl : x = p := by simpa using hj
      obtain rfl : j = n := by omega
      exact hx
section
variable {H : Type} {enc : TypeId × Value → H} {P : Program} {W : World} {spare : Nat → Bool} {held : Bool}
theorem C_of_trod {α : Type} (d : Kd α) {t e : TypeId} (ht : P.underlying t = some (.slice e)) (hC : P.cellsOf e = d.sz)
    (rd : ∀ (n : Nat) (cs : List Value) y, cs.length = P.cellsOf e → DataW.trod enc P W 0 spare held n e cs = some y → ∃ x, d.K W x cs)
    {n : Nat} {va : Value} {y : DataW H × List MemPlace} (h : DataW.trod enc P W 0 spare held n t [va] = some y) :
    ∃ (A : Option Addr) (c : Nat) (l : List α), va = .slice A l.length c ∧ l.length ≤ c ∧ Kd.C d W A l.length l := by
  rcases open_slice ht h with ⟨h0, _⟩ | ⟨a, len, cap, m, n', D, Pl, hcs, _, hl, hm, hmm, _, hi⟩
  · obtain rfl : va = .slice none 0 0 := by simpa using h0
    exact ⟨none, 0, [], rfl, Nat.le_refl _, rfl, by simp, fun h => absurd h (by simp)⟩
  · obtain rfl : va = .slice (some a) len cap := by simpa using hcs
    have hlm : len ≤ m := by rw [hmm]; split <;> omega
    obtain ⟨l, hll, hq⟩ := rows_list (Q := fun i x => ∃ c, c.length = d.sz ∧ d.K W x c ∧ ∀ j u, c[j]? = some u → W.cell? (a.add (i * d.sz + j)) = some u) len (fun i hi' => by
      obtain ⟨cs', hc, htr⟩ := hi i (by omega)
      obtain ⟨_, hcl, hat⟩ := World.cells?_some hc
      obtain ⟨x, hx⟩ := rd _ _ _ hcl htr
      refine ⟨x, cs', by rw [hcl, hC], hx, fun j u hu => ?_⟩
      have hj : j < cs'.length := (List.getElem?_eq_some_iff.1 hu).1
      have := hat j (by omega)
      rw [Go.Deep.add_add, hC] at this
      rw [this, hu])
    subst hll
    refine ⟨some a, cap, l, rfl, hl, rfl, ?_, fun _ => ⟨a, rfl, fun j p hj => hq j p hj⟩⟩
    unfold maxLen at hm
    omega
end
section
variable {H : Type} {enc : TypeId × Value → H} {W : World} {spare : Nat → Bool} {held : Bool}
theorem cells_item : Tryz.prog.cellsOf 69 = 4 := by kernel_rfl
theorem read_item (n : Nat) (cs : List Value) (y : DataW H × List MemPlace) (hl : cs.length = Tryz.prog.cellsOf 69) (h : DataW.trod enc Tryz.prog W 0 spare held n 69 cs = some y) : ∃ x, k69.K W x cs := by
  rw [cells_item] at hl
  obtain ⟨y0, y1, y2, y3, m, _, _, h0, h1, h2, h3⟩ := Go.Joins.trod_struct4 Tryz.underlying69 h
  match cs, hl with
  | [c0, c1, c2, c3], _ =>
    rw [show Tryz.prog.cellsOf 4 = 1 by kernel_rfl] at h0
    rw [show Tryz.prog.cellsOf 3 = 1 by kernel_rfl] at h1 h2 h3
    obtain ⟨b, hb, _⟩ := DataW.trod_bool Tryz.underlying4 h0
    obtain ⟨i1, e1, _⟩ := DataW.trod_int Tryz.underlying3 h1
    obtain ⟨i2, e2, _⟩ := DataW.trod_int Tryz.underlying3 h2
    obtain ⟨i3, e3, _⟩ := DataW.trod_int Tryz.underlying3 h3
    obtain rfl : c0 = .bool b := by simpa using hb
    obtain rfl : c1 = .int .i64 i1 := by simpa using e1
    obtain rfl : c2 = .int .i64 i2 := by simpa using e2
    obtain rfl : c3 = .int .i64 i3 := by simpa using e3
    exact ⟨⟨b, i1, i2, i3⟩, k69_mk W ⟨b, i1, i2, i3⟩⟩
theorem read_items (n : Nat) (cs : List Value) (y : DataW H × List MemPlace) (hl : cs.length = Tryz.prog.cellsOf 68) (h : DataW.trod enc Tryz.prog W 0 spare held n 68 cs = some y) : ∃ x, (Kd.slice 69 k69).K W x cs := by
  rw [show Tryz.prog.cellsOf 68 = 1 by kernel_rfl] at hl
  match cs, hl with
  | [c], _ =>
    obtain ⟨A, cap, l, rfl, hlc, hC⟩ := C_of_trod k69 Tryz.underlying68 cells_item read_item h
    exact ⟨l, A, cap, rfl, hlc, hC⟩
theorem read_fields {n : Nat} {va : Value} {y : DataW H × List MemPlace} (h : DataW.trod enc Tryz.prog W 0 spare held n 22 [va] = some y) :
    ∃ (A : Option Addr) (c : Nat) (l : List (List S69)), va = .slice A l.length c ∧ l.length ≤ c ∧ Kd.C (Kd.slice 69 k69) W A l.length l :=
  C_of_trod (Kd.slice 69 k69) Tryz.underlying22 (by kernel_rfl) read_items h
theorem read_expr {v : Value} {d : DataW H} {p : List MemPlace} {r : Reach} {b0 : Nat} (hv : Value.okWide Tryz.prog W r b0 24 v) (h : DataW.Trod enc Tryz.prog W 0 spare held 24 v d p) :
    ∃ (A : Option Addr) (c : Nat) (l : List (List S69)) (b : Bool), v = .agg #[.slice A l.length c, .bool b] ∧ l.length ≤ c ∧ Kd.C (Kd.slice 69 k69) W A l.length l := by
  obtain ⟨cs, rfl, hsz⟩ := okWide_struct Tryz.underlying24 hv
  obtain ⟨cs⟩ := cs
  obtain ⟨fuel, hf⟩ := h
  have hl : cs.length = 2 := hsz.trans (by kernel_rfl)
  obtain ⟨y0, y1, m, _, _, h0, h1⟩ := trod_struct2 Tryz.underlying24 hf
  match cs, hl with
  | [c0, c1], _ =>
    rw [show Tryz.prog.cellsOf 22 = 1 by kernel_rfl] at h0
    rw [show Tryz.prog.cellsOf 4 = 1 by kernel_rfl] at h1
    obtain ⟨A, cap, l, e, hlc, hC⟩ := read_fields (va := c0) (by simpa [Value.cells] using h0)
    obtain ⟨b, hb, _⟩ := DataW.trod_bool Tryz.underlying4 h1
    obtain rfl : c1 = .bool b := by simpa [Value.cells] using hb
    subst e
    exact ⟨A, cap, l, b, rfl, hlc, hC⟩
end
end Go.Proofs.YtemgofomhjabpaaGreatDoor.Core
namespace Go.Proofs.YtemgofomhjabpaaGreatDoor.Core
open Go.RowKit Go.Proofs.YtemgofomhjabpaaGreatDoorW.PrintWords Go.ChangeShapes Go.WideShapes Go.Deep
set_option maxRecDepth 100000
section
variable {H : Type} {enc : TypeId × Value → H} {P : Program} {w : World} {base : Nat} {spare : Nat → Bool} {held : Bool}
theorem list6 {α : Type} {l : List α} (h : l.length = 6) : ∃ c0 c1 c2 c3 c4 c5, l = [c0, c1, c2, c3, c4, c5] := by
  match l, h with
  | [c0, c1, c2, c3, c4, c5], _ => exact ⟨c0, c1, c2, c3, c4, c5, rfl⟩
theorem trod_struct6 {t : TypeId} {f0 f1 f2 f3 f4 f5 : Field} {fuel : Nat} {cs : List Value} {x : DataW H × List MemPlace} (ht : P.underlying t = some (.struct #[f0, f1, f2, f3, f4, f5])) (h : DataW.trod enc P w base spare held fuel t cs = some x) :
    ∃ y0 y1 y2 y3 y4 y5 n, DataW.trod enc P w base spare held n f0.type ((cs.drop f0.offset).take (P.cellsOf f0.type)) = some y0 ∧ DataW.trod enc P w base spare held n f1.type ((cs.drop f1.offset).take (P.cellsOf f1.type)) = some y1 ∧ DataW.trod enc P w base spare held n f2.type ((cs.drop f2.offset).take (P.cellsOf f2.type)) = some y2 ∧
      DataW.trod enc P w base spare held n f3.type ((cs.drop f3.offset).take (P.cellsOf f3.type)) = some y3 ∧ DataW.trod enc P w base spare held n f4.type ((cs.drop f4.offset).take (P.cellsOf f4.type)) = some y4 ∧ DataW.trod enc P w base spare held n f5.type ((cs.drop f5.offset).take (P.cellsOf f5.type)) = some y5 := by
  obtain ⟨xs, n, _, rfl, hl, hlen, hf⟩ := DataW.trod_struct ht h
  obtain ⟨y0, y1, y2, y3, y4, y5, rfl⟩ := list6 (show xs.length = 6 from hlen)
  exact ⟨y0, y1, y2, y3, y4, y5, n, by simpa using hf 0 f0 rfl, by simpa using hf 1 f1 rfl, by simpa using hf 2 f2 rfl, by simpa using hf 3 f3 rfl, by simpa using hf 4 f4 rfl, by simpa using hf 5 f5 rfl⟩
end
section
variable {H : Type} {enc : TypeId × Value → H} {W : World} {spare : Nat → Bool} {held : Bool}
theorem read_moment {v : Value} {d : DataW H} {p : List MemPlace} {r : Reach} {b0 : Nat} (hv : Value.okWide Tryz.prog W r b0 26 v) (h : DataW.Trod enc Tryz.prog W 0 spare held 26 v d p) :
    ∃ y mo d h mi s : Int, v = .agg #[.int .i64 y, .int .i64 mo, .int .i64 d, .int .i64 h, .int .i64 mi, .int .i64 s] := by
  obtain ⟨cs, rfl, hsz⟩ := okWide_struct Tryz.underlying26 hv
  obtain ⟨cs⟩ := cs
  obtain ⟨fuel, hf⟩ := h
  have hl : cs.length = 6 := hsz.trans (by kernel_rfl)
  obtain ⟨y0, y1, y2, y3, y4, y5, m, h0, h1, h2, h3, h4, h5⟩ := trod_struct6 Tryz.underlying26 hf
  obtain ⟨c0, c1, c2, c3, c4, c5, rfl⟩ := list6 hl
  rw [show Tryz.prog.cellsOf 3 = 1 by kernel_rfl] at h0 h1 h2 h3 h4 h5
  obtain ⟨i0, e0, _⟩ := DataW.trod_int Tryz.underlying3 h0
  obtain ⟨i1, e1, _⟩ := DataW.trod_int Tryz.underlying3 h1
  obtain ⟨i2, e2, _⟩ := DataW.trod_int Tryz.underlying3 h2
  obtain ⟨i3, e3, _⟩ := DataW.trod_int Tryz.underlying3 h3
  obtain ⟨i4, e4, _⟩ := DataW.trod_int Tryz.underlying3 h4
  obtain ⟨i5, e5, _⟩ := DataW.trod_int Tryz.underlying3 h5
  obtain rfl : c0 = .int .i64 i0 := by simpa [Value.cells] using e0
  obtain rfl : c1 = .int .i64 i1 := by simpa [Value.cells] using e1
  obtain rfl : c2 = .int .i64 i2 := by simpa [Value.cells] using e2
  obtain rfl : c3 = .int .i64 i3 := by simpa [Value.cells] using e3
  obtain rfl : c4 = .int .i64 i4 := by simpa [Value.cells] using e4
  obtain rfl : c5 = .int .i64 i5 := by simpa [Value.cells] using e5
  exact ⟨i0, i1, i2, i3, i4, i5, rfl⟩
theorem read_int {v : Value} {d : DataW H} {p : List MemPlace} {r : Reach} {b0 : Nat} (hv : Value.okWide Tryz.prog W r b0 3 v) (h : DataW.Trod enc Tryz.prog W 0 spare held 3 v d p) :
    ∃ n : Int, v = .int .i64 n ∧ True := by
  obtain ⟨a, rfl, _⟩ := open_int Tryz.underlying3 hv h
  exact ⟨a, rfl, trivial⟩
end
end Go.Proofs.YtemgofomhjabpaaGreatDoor.Core
namespace Go.Proofs.YtemgofomhjabpaaGreatDoor.FnListRow
open Go.ChangeShapes Go.WideShapes Go.ChangeAt Go.RowKit Go.Proofs.YtemgofomhjabpaaGreatDoorW.PrintWords Go.Proofs.YtemgofomhjabpaaGreatDoor.Core
theorem own : ownKnob Tryz.prog.godebug = none := by kernel_rfl
theorem laidOut : laidOutB Tryz.prog = true := by kernel_rfl
set_option maxRecDepth 100000 in
theorem lifted (os : Os) (started : os.Started) (H : Type) (enc : TypeId × Value → H) :
    ReturnsInHanded {} Tryz.checked os 3 .any (fun w args => (Rows.fnListSpec.pre enc Tryz.prog Tryz.f3 Rows.fnListRow.domain false w args ∧ laidMetH Tryz.prog Rows.fnListRow.laid w) ∧ sizedMet enc Tryz.prog Tryz.f3 (OpenSpec.ofChange Rows.fnListSpec) false w args)
      (Rows.fnListSpec.post enc Tryz.prog Tryz.f3 false true false false) := by
  refine returnsInHanded_of_change_and (C := Tryz.checked) (X := fun w _ => laidMetH Tryz.prog Rows.fnListRow.laid w) (fun _ _ _ hh h => h.of_heap hh) own started (by kernel_rfl) Tryz.func3
    (ChangeSpec.witness_shaped (enc := enc) (C := Tryz.checked) (os := os) (X := fun w _ => laidMetH Tryz.prog Rows.fnListRow.laid w) false (World.laidAll Tryz.prog os Rows.fnListRow.laid) #[.agg #[.slice none 0 0, .bool false], .agg #[.int .i64 0, .int .i64 0, .int .i64 0, .int .i64 0, .int .i64 0, .int .i64 0], .int .i64 0] 8 (World.laidAll_os _ _ _)
      (World.shaped_of_ZipB (by kernel_rfl) (by kernel_rfl)) (by kernel_rfl) (by kernel_rfl) (by kernel_rfl)
      (by rw [MakeChecks.laidMetH_plain _ _ _ (by kernel_rfl)]; exact laidMet_laidAll _ (by kernel_rfl) (by kernel_rfl))) ?_
  intro W base args ds gs before hval0 hW _ _ _ _
  have hval : ∀ (j : Nat) t v, Tryz.f3.params[j]? = some t → args[j]? = some v → Value.okWide Tryz.prog W .any base t v := hval0
  have hW' := hW
  obtain ⟨p, q, hA0, hV, rfl, _, _⟩ := hW
  have hA : DataW.TrodAll enc Tryz.prog W 0 (fun _ => true) true Tryz.f3.params.toList args.toList ds p := hA0
  rw [Tryz.params3] at hA hval
  obtain ⟨v0, vs0, d0, ds0, p0, q0, hargs, rfl, rfl, h0, r0⟩ := trodAll_cons hA
  obtain ⟨v1, vs1, d1, ds1, p1, q1, rfl, rfl, rfl, h1, r1⟩ := trodAll_cons r0
  obtain ⟨v2, vs2, d2, ds2, p2, q2, rfl, rfl, rfl, h2, r2⟩ := trodAll_cons r1
  obtain ⟨rfl, rfl, rfl⟩ := trodAll_nil r2
  obtain rfl : args = #[v0, v1, v2] := by cases args; simp_all
  obtain ⟨rfl, rfl⟩ := trodVars_none hV
  obtain ⟨A0, c0, l0, b0, rfl, hl0, hC0⟩ := read_expr (hval 0 24 v0 rfl rfl) h0
  obtain ⟨y1, mo1, d'1, hh1, mi1, s1, rfl⟩ := read_moment (hval 1 26 v1 rfl rfl) h1
  obtain ⟨n2, rfl, _⟩ := read_int (hval 2 3 v2 rfl rfl) h2
  have lt0 : ∀ x ∈ p0, x.block < W.heap.size := fun x hx => hW'.lt x (by simp [hx])
  have lt1 : ∀ x ∈ p1, x.block < W.heap.size := fun x hx => hW'.lt x (by simp [hx])
  have lt2 : ∀ x ∈ p2, x.block < W.heap.size := fun x hx => hW'.lt x (by simp [hx])
  clear hA0 hval0
  refine (fnList_walk A0 c0 l0 b0 y1 mo1 d'1 hh1 mi1 s1 n2 W hC0 hl0).mono fun e W' ⟨he, bel⟩ => ?_
  subst he
  exact ⟨_, rfl, _, _, _, [], _, [], hW', trodAll_mk1 (shut_bool Tryz.underlying4 _), (trodAll_cons_mk (Below.trod laidOut (by kernel_rfl) (of_decide_eq_true (by kernel_rfl)) h0 bel lt0) (trodAll_cons_mk (Below.trod laidOut (by kernel_rfl) (of_decide_eq_true (by kernel_rfl)) h1 bel lt1) (trodAll_cons_mk (Below.trod laidOut (by kernel_rfl) (of_decide_eq_true (by kernel_rfl)) h2 bel lt2) trodAll_mk0))), rfl, bel.frame _, fun h => by cases h⟩
theorem said : Rows.FnListSaid :=
  OpenClaim.holds_of_wide 3 Tryz.f3 rfl rfl rfl rfl rfl rfl rfl ⟨rfl, rfl, rfl, rfl, rfl⟩ rfl rfl rfl rfl rfl (by kernel_rfl) Tryz.func3 (by kernel_rfl)
    (of_decide_eq_true (by kernel_rfl)) (by unfold Func.isWrapper; first | (rw [if_pos (by decide +kernel)]; kernel_rfl) | (rw [if_neg (by decide +kernel)]; exact ⟨rfl, rfl⟩))
    (fun os started H enc _ => lifted os started H enc)
theorem plain (f : FuncId) (fn : Func) (hf : Tryz.pinned.checked.prog.funcNamed Rows.fnListRow.func = some f) (hfn : Tryz.pinned.checked.prog.funcs[f]? = some fn) :
    true = Tryz.pinned.checked.prog.looks [] ∧ ∀ (j : Nat) t, fn.params[j]? = some t → Tryz.pinned.checked.prog.wantsStandIn t = false := by
  obtain rfl : f = 3 := Option.some.inj ((show Tryz.prog.funcNamed Rows.fnListRow.func = some 3 by kernel_rfl).symm.trans hf) |>.symm
  obtain rfl : fn = Tryz.f3 := (Option.some.inj (Tryz.func3.symm.trans hfn)).symm
  refine ⟨by kernel_rfl, fun j t ht => ?_⟩
  rw [Tryz.params3] at ht
  have hm : t ∈ [24, 26, 3] := by simpa using Array.mem_of_getElem? ht
  have hall : ([24, 26, 3].all fun u => !Tryz.prog.wantsStandIn u) = true := by kernel_rfl
  exact (show Tryz.prog.wantsStandIn t = false by simpa using List.all_eq_true.1 hall t hm)
theorem card : Rows.FnListCardSaid :=
  Claim7.holds_tied_plain_at .later [] _ _ _ _ said (fun _ h => by cases h) (by kernel_rfl) (fun _ h => by cases h) fnList_row_tie rfl ⟨rfl, rfl⟩ (by kernel_rfl) rfl plain (by kernel_rfl)
#print axioms card
end Go.Proofs.YtemgofomhjabpaaGreatDoor.FnListRow
namespace Go.Proofs.YtemgofomhjabpaaGreatDoor
theorem fnList_holds : Rows.FnListCardSaid := FnListRow.card
end Go.Proofs.YtemgofomhjabpaaGreatDoor
