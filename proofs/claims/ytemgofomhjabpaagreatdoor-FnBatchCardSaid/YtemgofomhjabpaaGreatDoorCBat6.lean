/-
  PROVED: THE CARD OF laws.FnBatch: for all expressions and each moment that come in, the call returns true, and the arguments read as they did.
  CONDITIONS: the row's own ('laid': tables of Go's library read as the row lists them; the tie is given).
-/
import Derived.Test.YtemgofomhjabpaaGreatDoorCBat1
import Derived.Test.YtemgofomhjabpaaGreatDoorCBat2
import Derived.Test.YtemgofomhjabpaaGreatDoorCBat3
import Derived.Test.YtemgofomhjabpaaGreatDoorCBat4
import Derived.Test.YtemgofomhjabpaaGreatDoorCBat5
import Derived.Maps.Keyed
import Derived.Maps.Own
import Derived.Carry
import Derived.StringKeys
import Derived.Deep.LoopGhost
import Derived.Deep.QuietTactic
import Derived.BigQuiet
import Derived.Deep.Slices
import Derived.Deep.Fields
import Derived.ChangeSame
import Derived.Lib.SmallJoins
import Derived.WideShapes
import Derived.OpenShut
import Derived.Test.YtemgofomhjabpaaGreatDoorCards
import Derived.Test.YtemgofomhjabpaaGreatDoorTie
import Derived.ProofKit
import Derived.LaidMore
import Derived.Lay
import Derived.SevenTiedAt
namespace Go.Proofs.YtemgofomhjabpaaGreatDoor.Core
open Go.RowKit Go.Proofs.YtemgofomhjabpaaGreatDoorW.PrintWords
set_option maxRecDepth 100000 in
set_option maxHeartbeats 800000 in
theorem range_in (val a b : Int) (s : ByteArray) (t : List Int) (k : Nat) (Q : List ByteArray) (hs2 : gronx_zzSplit.f k s ⟨#[45]⟩ = some Q) (hQ : Q.length = 2) (ha0 : strconv_Atoi.f (rdOf ByteArray.empty Q 0) = some (a, none)) (ha1 : strconv_Atoi.f (rdOf ByteArray.empty Q 1) = some (b, none)) (ht : t.length = 2) (hab : a ≤ b) (hlo : rd t 0 ≤ a) (hhi : b ≤ rd t 1) (hv : a ≤ val)  : InC 135 val s t false (decide (val ≤ b)) := by
 intro A cc w hC hcc
 have hs2 := Aside0.mk hs2
 have ha0 := Aside0.mk ha0
 have ha1 := Aside0.mk ha1
 obtain ⟨ab, rfl, u0, u1⟩ := two_int hC rfl (by omega)
 have qi0 : (0 < t.length) = True := eq_true (by omega)
 have qi1 : (0 < (t.length : Int)) = True := eq_true (by omega)
 have qi2 : (1 < t.length) = True := eq_true (by omega)
 have qi3 : (1 < (t.length : Int)) = True := eq_true (by omega)
 have qq0 : (1 < Q.length) = True := eq_true (by omega)
 have qq1 : (1 < (Q.length : Int)) = True := eq_true (by omega)
 have qq2 : (0 < Q.length) = True := eq_true (by omega)
 have qq3 : (0 < (Q.length : Int)) = True := eq_true (by omega)
 generalize rd t 0 = lo at *
 generalize rd t 1 = hi' at *
 have n3 : ¬ b < a := by omega
 have n4 : ¬ a < lo := by omega
 have n5 : ¬ hi' < b := by omega
 have n6 : ¬ b < lo := by omega
 have n7 : ¬ hi' < a := by omega
 go_enter Tryz.func135, Tryz.ntmps135
 go_wp2_with (first | (go_at_call 62; refine (gronx_zzSplit.calls k _ _ _ _ hs2.out).mono ?_; rintro e w3 ⟨v2, rfl, hR2, hb3⟩; obtain ⟨A2, c2, rfl⟩ := Kd.R_slice hR2; obtain ⟨ae, rfl, z0, z1⟩ := two_at (Kd.R_reads' hR2).2.2 rfl (by omega); have u6 := cell_after hb3 u0; have u7 := cell_after hb3 u1; clear hs2) | (go_at_call 136; refine (strconv_Atoi.calls _ _ _ _ ha0.out).mono ?_; rintro e w4 ⟨rfl, hb4⟩; have u8 := cell_after hb4 u6; have u9 := cell_after hb4 u7; have z2 := cell_after hb4 z1; rw [errW_none]; clear ha0) | (go_at_call 136; refine (strconv_Atoi.calls _ _ _ _ ha1.out).mono ?_; rintro e w5 ⟨rfl, hb5⟩; have v8 := cell_after hb5 u8; have v9 := cell_after hb5 u9; rw [errW_none]; clear ha1))
 go_ret2
 exact ⟨by first | rfl | simp [*], by repeat (first | exact below_step (below_step hb3 hb4) hb5 | apply pw_below_drewN)⟩
set_option maxRecDepth 100000 in
set_option maxHeartbeats 800000 in
theorem range_out (val a b : Int) (s : ByteArray) (t : List Int) (k : Nat) (Q : List ByteArray) (hs2 : gronx_zzSplit.f k s ⟨#[45]⟩ = some Q) (hQ : Q.length = 2) (ha0 : strconv_Atoi.f (rdOf ByteArray.empty Q 0) = some (a, none)) (ha1 : strconv_Atoi.f (rdOf ByteArray.empty Q 1) = some (b, none)) (ht : t.length = 2) (hab : a ≤ b) (hlo : rd t 0 ≤ a) (hhi : b ≤ rd t 1) (hv0 : ¬ a ≤ val)  : InC 135 val s t false false := by
 intro A cc w hC hcc
 have hs2 := Aside0.mk hs2
 have ha0 := Aside0.mk ha0
 have ha1 := Aside0.mk ha1
 obtain ⟨ab, rfl, u0, u1⟩ := two_int hC rfl (by omega)
 have qi0 : (0 < t.length) = True := eq_true (by omega)
 have qi1 : (0 < (t.length : Int)) = True := eq_true (by omega)
 have qi2 : (1 < t.length) = True := eq_true (by omega)
 have qi3 : (1 < (t.length : Int)) = True := eq_true (by omega)
 have qq0 : (1 < Q.length) = True := eq_true (by omega)
 have qq1 : (1 < (Q.length : Int)) = True := eq_true (by omega)
 have qq2 : (0 < Q.length) = True := eq_true (by omega)
 have qq3 : (0 < (Q.length : Int)) = True := eq_true (by omega)
 generalize rd t 0 = lo at *
 generalize rd t 1 = hi' at *
 have n3 : ¬ b < a := by omega
 have n4 : ¬ a < lo := by omega
 have n5 : ¬ hi' < b := by omega
 have n6 : ¬ b < lo := by omega
 have n7 : ¬ hi' < a := by omega
 have hv : val < a := by omega
 clear hv0
 go_enter Tryz.func135, Tryz.ntmps135
 go_wp2_with (first | (go_at_call 62; refine (gronx_zzSplit.calls k _ _ _ _ hs2.out).mono ?_; rintro e w3 ⟨v2, rfl, hR2, hb3⟩; obtain ⟨A2, c2, rfl⟩ := Kd.R_slice hR2; obtain ⟨ae, rfl, z0, z1⟩ := two_at (Kd.R_reads' hR2).2.2 rfl (by omega); have u6 := cell_after hb3 u0; have u7 := cell_after hb3 u1; clear hs2) | (go_at_call 136; refine (strconv_Atoi.calls _ _ _ _ ha0.out).mono ?_; rintro e w4 ⟨rfl, hb4⟩; have u8 := cell_after hb4 u6; have u9 := cell_after hb4 u7; have z2 := cell_after hb4 z1; rw [errW_none]; clear ha0) | (go_at_call 136; refine (strconv_Atoi.calls _ _ _ _ ha1.out).mono ?_; rintro e w5 ⟨rfl, hb5⟩; have v8 := cell_after hb5 u8; have v9 := cell_after hb5 u9; rw [errW_none]; clear ha1))
 go_ret2
 exact ⟨by first | rfl | simp [*], by repeat (first | exact below_step (below_step hb3 hb4) hb5 | apply pw_below_drewN)⟩
set_option maxRecDepth 100000 in
set_option maxHeartbeats 800000 in
theorem range_in_wd (val a b : Int) (s : ByteArray) (t : List Int) (k : Nat) (Q : List ByteArray) (hs2 : gronx_zzSplit.f k s ⟨#[45]⟩ = some Q) (hQ : Q.length = 2) (ha0 : strconv_Atoi.f (rdOf ByteArray.empty Q 0) = some (a, none)) (ha1 : strconv_Atoi.f (rdOf ByteArray.empty Q 1) = some (b, none)) (ht : t.length = 2) (hab : a ≤ b) (hlo : rd t 0 ≤ a) (hhi : b ≤ rd t 1) (b6 : b ≤ 6) (hv : a ≤ val)  : InC 135 val s t true (decide (val ≤ b)) := by
 intro A cc w hC hcc
 have hs2 := Aside0.mk hs2
 have ha0 := Aside0.mk ha0
 have ha1 := Aside0.mk ha1
 obtain ⟨ab, rfl, u0, u1⟩ := two_int hC rfl (by omega)
 have qi0 : (0 < t.length) = True := eq_true (by omega)
 have qi1 : (0 < (t.length : Int)) = True := eq_true (by omega)
 have qi2 : (1 < t.length) = True := eq_true (by omega)
 have qi3 : (1 < (t.length : Int)) = True := eq_true (by omega)
 have qq0 : (1 < Q.length) = True := eq_true (by omega)
 have qq1 : (1 < (Q.length : Int)) = True := eq_true (by omega)
 have qq2 : (0 < Q.length) = True := eq_true (by omega)
 have qq3 : (0 < (Q.length : Int)) = True := eq_true (by omega)
 generalize rd t 0 = lo at *
 generalize rd t 1 = hi' at *
 have n3 : ¬ b < a := by omega
 have n4 : ¬ a < lo := by omega
 have n5 : ¬ hi' < b := by omega
 have n6 : ¬ b < lo := by omega
 have n7 : ¬ hi' < a := by omega
 have m6 : (a == 7) = false := beq_eq_false_iff_ne.mpr (by omega)
 have m7 : (b == 7) = false := beq_eq_false_iff_ne.mpr (by omega)
 have m8 : a ≠ 7 := by omega
 have m9 : b ≠ 7 := by omega
 go_enter Tryz.func135, Tryz.ntmps135
 go_wp2_with (first | (go_at_call 62; refine (gronx_zzSplit.calls k _ _ _ _ hs2.out).mono ?_; rintro e w3 ⟨v2, rfl, hR2, hb3⟩; obtain ⟨A2, c2, rfl⟩ := Kd.R_slice hR2; obtain ⟨ae, rfl, z0, z1⟩ := two_at (Kd.R_reads' hR2).2.2 rfl (by omega); have u6 := cell_after hb3 u0; have u7 := cell_after hb3 u1; clear hs2) | (go_at_call 136; refine (strconv_Atoi.calls _ _ _ _ ha0.out).mono ?_; rintro e w4 ⟨rfl, hb4⟩; have u8 := cell_after hb4 u6; have u9 := cell_after hb4 u7; have z2 := cell_after hb4 z1; rw [errW_none]; clear ha0) | (go_at_call 136; refine (strconv_Atoi.calls _ _ _ _ ha1.out).mono ?_; rintro e w5 ⟨rfl, hb5⟩; have v8 := cell_after hb5 u8; have v9 := cell_after hb5 u9; rw [errW_none]; clear ha1))
 go_ret2
 exact ⟨by first | rfl | simp [*], by repeat (first | exact below_step (below_step hb3 hb4) hb5 | apply pw_below_drewN)⟩
set_option maxRecDepth 100000 in
set_option maxHeartbeats 800000 in
theorem range_out_wd (val a b : Int) (s : ByteArray) (t : List Int) (k : Nat) (Q : List ByteArray) (hs2 : gronx_zzSplit.f k s ⟨#[45]⟩ = some Q) (hQ : Q.length = 2) (ha0 : strconv_Atoi.f (rdOf ByteArray.empty Q 0) = some (a, none)) (ha1 : strconv_Atoi.f (rdOf ByteArray.empty Q 1) = some (b, none)) (ht : t.length = 2) (hab : a ≤ b) (hlo : rd t 0 ≤ a) (hhi : b ≤ rd t 1) (b6 : b ≤ 6) (hv0 : ¬ a ≤ val)  : InC 135 val s t true false := by
 intro A cc w hC hcc
 have hs2 := Aside0.mk hs2
 have ha0 := Aside0.mk ha0
 have ha1 := Aside0.mk ha1
 obtain ⟨ab, rfl, u0, u1⟩ := two_int hC rfl (by omega)
 have qi0 : (0 < t.length) = True := eq_true (by omega)
 have qi1 : (0 < (t.length : Int)) = True := eq_true (by omega)
 have qi2 : (1 < t.length) = True := eq_true (by omega)
 have qi3 : (1 < (t.length : Int)) = True := eq_true (by omega)
 have qq0 : (1 < Q.length) = True := eq_true (by omega)
 have qq1 : (1 < (Q.length : Int)) = True := eq_true (by omega)
 have qq2 : (0 < Q.length) = True := eq_true (by omega)
 have qq3 : (0 < (Q.length : Int)) = True := eq_true (by omega)
 generalize rd t 0 = lo at *
 generalize rd t 1 = hi' at *
 have n3 : ¬ b < a := by omega
 have n4 : ¬ a < lo := by omega
 have n5 : ¬ hi' < b := by omega
 have n6 : ¬ b < lo := by omega
 have n7 : ¬ hi' < a := by omega
 have m6 : (a == 7) = false := beq_eq_false_iff_ne.mpr (by omega)
 have m7 : (b == 7) = false := beq_eq_false_iff_ne.mpr (by omega)
 have m8 : a ≠ 7 := by omega
 have m9 : b ≠ 7 := by omega
 have hv : val < a := by omega
 clear hv0
 go_enter Tryz.func135, Tryz.ntmps135
 go_wp2_with (first | (go_at_call 62; refine (gronx_zzSplit.calls k _ _ _ _ hs2.out).mono ?_; rintro e w3 ⟨v2, rfl, hR2, hb3⟩; obtain ⟨A2, c2, rfl⟩ := Kd.R_slice hR2; obtain ⟨ae, rfl, z0, z1⟩ := two_at (Kd.R_reads' hR2).2.2 rfl (by omega); have u6 := cell_after hb3 u0; have u7 := cell_after hb3 u1; clear hs2) | (go_at_call 136; refine (strconv_Atoi.calls _ _ _ _ ha0.out).mono ?_; rintro e w4 ⟨rfl, hb4⟩; have u8 := cell_after hb4 u6; have u9 := cell_after hb4 u7; have z2 := cell_after hb4 z1; rw [errW_none]; clear ha0) | (go_at_call 136; refine (strconv_Atoi.calls _ _ _ _ ha1.out).mono ?_; rintro e w5 ⟨rfl, hb5⟩; have v8 := cell_after hb5 u8; have v9 := cell_after hb5 u9; rw [errW_none]; clear ha1))
 go_ret2
 exact ⟨by first | rfl | simp [*], by repeat (first | exact below_step (below_step hb3 hb4) hb5 | apply pw_below_drewN)⟩
set_option maxRecDepth 100000 in
set_option maxHeartbeats 800000 in
theorem offStar_w (c : Nat) (val : Int) (pos : Nat) : OffC c val pos ⟨#[42]⟩ true false := by
 intro w
 go_enter Tryz.func117, Tryz.ntmps117
 go_wp2
 go_ret2
 exact ⟨_, rfl, .inl ⟨rfl, rfl⟩, by repeat (first | exact Below.refl _ _ | apply pw_below_drewN)⟩
set_option maxRecDepth 100000 in
set_option maxHeartbeats 800000 in
theorem offStep_w (c : Nat) (o : ByteArray) (k : Nat) (val : Int) (t : List Int) (pos : Nat) (s1 : o.toList ≠ ([42] : List UInt8)) (s2 : o.toList ≠ ([63] : List UInt8)) (hb : gronx_boundsByPos.f k (pos : Int) = some t) (h1 : gronx_zzContains.f k o ⟨#[47]⟩ = some true) (r : Bool) (hin : InC 134 val o t ((pos : Int) == 5) r) : OffC c val pos o r false := by
 intro w
 have hb := Aside0.mk hb
 have q1 : (o.toList == ([42] : List UInt8)) = false := beq_eq_false_iff_ne.mpr s1
 have q2 : (o.toList == ([63] : List UInt8)) = false := beq_eq_false_iff_ne.mpr s2
 have h1 := Aside0.mk h1
 have hin := Aside0.mk hin
 go_enter Tryz.func117, Tryz.ntmps117
 go_wp2_with (first | (go_at_call 132; refine (gronx_boundsByPos.calls k _ _ _ hb.out).mono ?_; rintro e w1 ⟨v0, rfl, hR, hb1⟩; obtain ⟨A, cc, rfl⟩ := Kd.R_slice hR) | (go_at_call 133; refine (gronx_zzContains.calls k _ _ _ _ h1.out).mono ?_; rintro e wz ⟨rfl, ⟨nd, rfl⟩⟩; clear h1) | (go_at_call 134; refine (hin.out _ _ _ (Kd.C_below (Kd.R_reads' hR).2.2 (by repeat (first | exact Below.refl _ _ | apply pw_below_drewN))) (Kd.R_reads' hR).2.1).mono ?_; rintro e w2 ⟨rfl, hb2⟩))
 go_ret2
 exact ⟨_, rfl, .inl ⟨rfl, rfl⟩, below_step (by repeat (first | exact hb1 | apply pw_below_drewN)) hb2⟩
set_option maxRecDepth 100000 in
set_option maxHeartbeats 800000 in
theorem offRange_w (c : Nat) (o : ByteArray) (k : Nat) (val : Int) (t : List Int) (pos : Nat) (s1 : o.toList ≠ ([42] : List UInt8)) (s2 : o.toList ≠ ([63] : List UInt8)) (hb : gronx_boundsByPos.f k (pos : Int) = some t) (h1 : gronx_zzContains.f k o ⟨#[47]⟩ = some false) (h2 : gronx_zzContains.f k o ⟨#[45]⟩ = some true) (r : Bool) (hin : InC 135 val o t ((pos : Int) == 5) r) : OffC c val pos o r false := by
 intro w
 have hb := Aside0.mk hb
 have q1 : (o.toList == ([42] : List UInt8)) = false := beq_eq_false_iff_ne.mpr s1
 have q2 : (o.toList == ([63] : List UInt8)) = false := beq_eq_false_iff_ne.mpr s2
 have h1 := Aside0.mk h1
 have h2 := Aside0.mk h2
 have hin := Aside0.mk hin
 go_enter Tryz.func117, Tryz.ntmps117
 go_wp2_with (first | (go_at_call 132; refine (gronx_boundsByPos.calls k _ _ _ hb.out).mono ?_; rintro e w1 ⟨v0, rfl, hR, hb1⟩; obtain ⟨A, cc, rfl⟩ := Kd.R_slice hR) | (go_at_call 133; refine (gronx_zzContains.calls k _ _ _ _ h1.out).mono ?_; rintro e wz ⟨rfl, ⟨nd, rfl⟩⟩; clear h1) | (go_at_call 133; refine (gronx_zzContains.calls k _ _ _ _ h2.out).mono ?_; rintro e wz ⟨rfl, ⟨nd2, rfl⟩⟩; clear h2) | (go_at_call 135; refine (hin.out _ _ _ (Kd.C_below (Kd.R_reads' hR).2.2 (by repeat (first | exact Below.refl _ _ | apply pw_below_drewN))) (Kd.R_reads' hR).2.1).mono ?_; rintro e w2 ⟨rfl, hb2⟩))
 go_ret2
 exact ⟨_, rfl, .inl ⟨rfl, rfl⟩, below_step (by repeat (first | exact hb1 | apply pw_below_drewN)) hb2⟩
set_option maxRecDepth 100000 in
set_option maxHeartbeats 800000 in
theorem offNum_wd_eq (c : Nat) (o : ByteArray) (k : Nat) (val : Int) (t : List Int) (pos : Nat) (s1 : o.toList ≠ ([42] : List UInt8)) (s2 : o.toList ≠ ([63] : List UInt8)) (hb : gronx_boundsByPos.f k (pos : Int) = some t) (ht : t.length = 2) (n : Int) (h1 : gronx_zzContains.f k o ⟨#[47]⟩ = some false) (h2 : gronx_zzContains.f k o ⟨#[45]⟩ = some false) (ha : strconv_Atoi.f o = some (n, none)) (hlo : rd t 0 ≤ n) (hhi : n ≤ rd t 1) (hp : pos = 5) (hn : n = val)  : OffC c val pos o true false := by
 intro w
 have hb := Aside0.mk hb
 have q1 : (o.toList == ([42] : List UInt8)) = false := beq_eq_false_iff_ne.mpr s1
 have q2 : (o.toList == ([63] : List UInt8)) = false := beq_eq_false_iff_ne.mpr s2
 have h1 := Aside0.mk h1
 have h2 := Aside0.mk h2
 have ha := Aside0.mk ha
 have qi0 : (0 < t.length) = True := eq_true (by omega)
 have qi1 : (0 < (t.length : Int)) = True := eq_true (by omega)
 have qi2 : (1 < t.length) = True := eq_true (by omega)
 have qi3 : (1 < (t.length : Int)) = True := eq_true (by omega)
 have g0 : ∃ lo, rd t 0 = lo := ⟨_, rfl⟩
 have g1 : ∃ hi, rd t 1 = hi := ⟨_, rfl⟩
 obtain ⟨lo, g0⟩ := g0
 obtain ⟨hi, g1⟩ := g1
 rw [g0] at hlo
 rw [g1] at hhi
 have n4 : ¬ n < lo := by omega
 have n5 : ¬ hi < n := by omega
 have e5 : ((pos : Int) == 5) = true := by simp; omega
 clear hp
 have f1 : (n == val) = true := by simp [hn]
 clear hn
 go_enter Tryz.func117, Tryz.ntmps117
 go_wp2_with (first | (go_at_call 132; refine (gronx_boundsByPos.calls k _ _ _ hb.out).mono ?_; rintro e w1 ⟨v0, rfl, hR, hb1⟩; obtain ⟨A, cc, rfl⟩ := Kd.R_slice hR) | (go_at_call 133; refine (gronx_zzContains.calls k _ _ _ _ h1.out).mono ?_; rintro e wz ⟨rfl, ⟨nd, rfl⟩⟩; clear h1) | (go_at_call 133; refine (gronx_zzContains.calls k _ _ _ _ h2.out).mono ?_; rintro e wz ⟨rfl, ⟨nd2, rfl⟩⟩; clear h2) | (go_at_call 136; refine (strconv_Atoi.calls _ _ _ _ ha.out).mono ?_; rintro e w2 ⟨rfl, hb2⟩; rw [errW_none]; obtain ⟨ad, rfl, y0, y1⟩ := two_int (Kd.R_reads' hR).2.2 rfl (by omega); have x0 := cell_after (by repeat (first | exact hb2 | exact below_step (by repeat (first | exact Below.refl _ _ | apply pw_below_drewN)) hb2)) y0; rw [g0] at x0; have x1 := cell_after (by repeat (first | exact hb2 | exact below_step (by repeat (first | exact Below.refl _ _ | apply pw_below_drewN)) hb2)) y1; rw [g1] at x1))
 go_ret2
 exact ⟨_, rfl, .inl ⟨rfl, rfl⟩, below_step (by repeat (first | exact hb1 | apply pw_below_drewN)) hb2⟩
set_option maxRecDepth 100000 in
set_option maxHeartbeats 800000 in
theorem offNum_wd_ne (c : Nat) (o : ByteArray) (k : Nat) (val : Int) (t : List Int) (pos : Nat) (s1 : o.toList ≠ ([42] : List UInt8)) (s2 : o.toList ≠ ([63] : List UInt8)) (hb : gronx_boundsByPos.f k (pos : Int) = some t) (ht : t.length = 2) (n : Int) (h1 : gronx_zzContains.f k o ⟨#[47]⟩ = some false) (h2 : gronx_zzContains.f k o ⟨#[45]⟩ = some false) (ha : strconv_Atoi.f o = some (n, none)) (hlo : rd t 0 ≤ n) (hhi : n ≤ rd t 1) (hp : pos = 5) (n6 : n ≤ 6) (hn : n ≠ val)  : OffC c val pos o false false := by
 intro w
 have hb := Aside0.mk hb
 have q1 : (o.toList == ([42] : List UInt8)) = false := beq_eq_false_iff_ne.mpr s1
 have q2 : (o.toList == ([63] : List UInt8)) = false := beq_eq_false_iff_ne.mpr s2
 have h1 := Aside0.mk h1
 have h2 := Aside0.mk h2
 have ha := Aside0.mk ha
 have qi0 : (0 < t.length) = True := eq_true (by omega)
 have qi1 : (0 < (t.length : Int)) = True := eq_true (by omega)
 have qi2 : (1 < t.length) = True := eq_true (by omega)
 have qi3 : (1 < (t.length : Int)) = True := eq_true (by omega)
 have g0 : ∃ lo, rd t 0 = lo := ⟨_, rfl⟩
 have g1 : ∃ hi, rd t 1 = hi := ⟨_, rfl⟩
 obtain ⟨lo, g0⟩ := g0
 obtain ⟨hi, g1⟩ := g1
 rw [g0] at hlo
 rw [g1] at hhi
 have n4 : ¬ n < lo := by omega
 have n5 : ¬ hi < n := by omega
 have e5 : ((pos : Int) == 5) = true := by simp; omega
 clear hp
 have f1 : (n == val) = false := by simp [hn]
 have f2 : (n == 7) = false := by simp; omega
 have f3 : n ≠ 7 := by omega
 go_enter Tryz.func117, Tryz.ntmps117
 go_wp2_with (first | (go_at_call 132; refine (gronx_boundsByPos.calls k _ _ _ hb.out).mono ?_; rintro e w1 ⟨v0, rfl, hR, hb1⟩; obtain ⟨A, cc, rfl⟩ := Kd.R_slice hR) | (go_at_call 133; refine (gronx_zzContains.calls k _ _ _ _ h1.out).mono ?_; rintro e wz ⟨rfl, ⟨nd, rfl⟩⟩; clear h1) | (go_at_call 133; refine (gronx_zzContains.calls k _ _ _ _ h2.out).mono ?_; rintro e wz ⟨rfl, ⟨nd2, rfl⟩⟩; clear h2) | (go_at_call 136; refine (strconv_Atoi.calls _ _ _ _ ha.out).mono ?_; rintro e w2 ⟨rfl, hb2⟩; rw [errW_none]; obtain ⟨ad, rfl, y0, y1⟩ := two_int (Kd.R_reads' hR).2.2 rfl (by omega); have x0 := cell_after (by repeat (first | exact hb2 | exact below_step (by repeat (first | exact Below.refl _ _ | apply pw_below_drewN)) hb2)) y0; rw [g0] at x0; have x1 := cell_after (by repeat (first | exact hb2 | exact below_step (by repeat (first | exact Below.refl _ _ | apply pw_below_drewN)) hb2)) y1; rw [g1] at x1))
 go_ret2
 exact ⟨_, rfl, .inl ⟨rfl, rfl⟩, below_step (by repeat (first | exact hb1 | apply pw_below_drewN)) hb2⟩
set_option maxRecDepth 100000 in
set_option maxHeartbeats 800000 in
theorem offNum_zz (c : Nat) (o : ByteArray) (k : Nat) (val : Int) (t : List Int) (pos : Nat) (s1 : o.toList ≠ ([42] : List UInt8)) (s2 : o.toList ≠ ([63] : List UInt8)) (hb : gronx_boundsByPos.f k (pos : Int) = some t) (ht : t.length = 2) (n : Int) (h1 : gronx_zzContains.f k o ⟨#[47]⟩ = some false) (h2 : gronx_zzContains.f k o ⟨#[45]⟩ = some false) (ha : strconv_Atoi.f o = some (n, none)) (hlo : rd t 0 ≤ n) (hhi : n ≤ rd t 1) (hp : pos ≠ 5) (hv : val = 0) (hn : n = 0)  : OffC c val pos o true false := by
 intro w
 have hb := Aside0.mk hb
 have q1 : (o.toList == ([42] : List UInt8)) = false := beq_eq_false_iff_ne.mpr s1
 have q2 : (o.toList == ([63] : List UInt8)) = false := beq_eq_false_iff_ne.mpr s2
 have h1 := Aside0.mk h1
 have h2 := Aside0.mk h2
 have ha := Aside0.mk ha
 have qi0 : (0 < t.length) = True := eq_true (by omega)
 have qi1 : (0 < (t.length : Int)) = True := eq_true (by omega)
 have qi2 : (1 < t.length) = True := eq_true (by omega)
 have qi3 : (1 < (t.length : Int)) = True := eq_true (by omega)
 have g0 : ∃ lo, rd t 0 = lo := ⟨_, rfl⟩
 have g1 : ∃ hi, rd t 1 = hi := ⟨_, rfl⟩
 obtain ⟨lo, g0⟩ := g0
 obtain ⟨hi, g1⟩ := g1
 rw [g0] at hlo
 rw [g1] at hhi
 have n4 : ¬ n < lo := by omega
 have n5 : ¬ hi < n := by omega
 have e5 : ((pos : Int) == 5) = false := by simp; omega
 clear hp
 have f1 : (val == 0) = true := by simp [hv]
 have f2 : (n == 0) = true := by simp [hn]
 clear hv hn
 go_enter Tryz.func117, Tryz.ntmps117
 go_wp2_with (first | (go_at_call 132; refine (gronx_boundsByPos.calls k _ _ _ hb.out).mono ?_; rintro e w1 ⟨v0, rfl, hR, hb1⟩; obtain ⟨A, cc, rfl⟩ := Kd.R_slice hR) | (go_at_call 133; refine (gronx_zzContains.calls k _ _ _ _ h1.out).mono ?_; rintro e wz ⟨rfl, ⟨nd, rfl⟩⟩; clear h1) | (go_at_call 133; refine (gronx_zzContains.calls k _ _ _ _ h2.out).mono ?_; rintro e wz ⟨rfl, ⟨nd2, rfl⟩⟩; clear h2) | (go_at_call 136; refine (strconv_Atoi.calls _ _ _ _ ha.out).mono ?_; rintro e w2 ⟨rfl, hb2⟩; rw [errW_none]; obtain ⟨ad, rfl, y0, y1⟩ := two_int (Kd.R_reads' hR).2.2 rfl (by omega); have x0 := cell_after (by repeat (first | exact hb2 | exact below_step (by repeat (first | exact Below.refl _ _ | apply pw_below_drewN)) hb2)) y0; rw [g0] at x0; have x1 := cell_after (by repeat (first | exact hb2 | exact below_step (by repeat (first | exact Below.refl _ _ | apply pw_below_drewN)) hb2)) y1; rw [g1] at x1))
 go_ret2
 exact ⟨_, rfl, .inl ⟨rfl, rfl⟩, below_step (by repeat (first | exact hb1 | apply pw_below_drewN)) hb2⟩
set_option maxRecDepth 100000 in
set_option maxHeartbeats 800000 in
theorem offNum_zn (c : Nat) (o : ByteArray) (k : Nat) (val : Int) (t : List Int) (pos : Nat) (s1 : o.toList ≠ ([42] : List UInt8)) (s2 : o.toList ≠ ([63] : List UInt8)) (hb : gronx_boundsByPos.f k (pos : Int) = some t) (ht : t.length = 2) (n : Int) (h1 : gronx_zzContains.f k o ⟨#[47]⟩ = some false) (h2 : gronx_zzContains.f k o ⟨#[45]⟩ = some false) (ha : strconv_Atoi.f o = some (n, none)) (hlo : rd t 0 ≤ n) (hhi : n ≤ rd t 1) (hp : pos ≠ 5) (hv : val = 0) (hn : n ≠ 0)  : OffC c val pos o false false := by
 intro w
 have hb := Aside0.mk hb
 have q1 : (o.toList == ([42] : List UInt8)) = false := beq_eq_false_iff_ne.mpr s1
 have q2 : (o.toList == ([63] : List UInt8)) = false := beq_eq_false_iff_ne.mpr s2
 have h1 := Aside0.mk h1
 have h2 := Aside0.mk h2
 have ha := Aside0.mk ha
 have qi0 : (0 < t.length) = True := eq_true (by omega)
 have qi1 : (0 < (t.length : Int)) = True := eq_true (by omega)
 have qi2 : (1 < t.length) = True := eq_true (by omega)
 have qi3 : (1 < (t.length : Int)) = True := eq_true (by omega)
 have g0 : ∃ lo, rd t 0 = lo := ⟨_, rfl⟩
 have g1 : ∃ hi, rd t 1 = hi := ⟨_, rfl⟩
 obtain ⟨lo, g0⟩ := g0
 obtain ⟨hi, g1⟩ := g1
 rw [g0] at hlo
 rw [g1] at hhi
 have n4 : ¬ n < lo := by omega
 have n5 : ¬ hi < n := by omega
 have e5 : ((pos : Int) == 5) = false := by simp; omega
 clear hp
 have f1 : (val == 0) = true := by simp [hv]
 have f2 : (n == 0) = false := by simp [hn]
 clear hv
 go_enter Tryz.func117, Tryz.ntmps117
 go_wp2_with (first | (go_at_call 132; refine (gronx_boundsByPos.calls k _ _ _ hb.out).mono ?_; rintro e w1 ⟨v0, rfl, hR, hb1⟩; obtain ⟨A, cc, rfl⟩ := Kd.R_slice hR) | (go_at_call 133; refine (gronx_zzContains.calls k _ _ _ _ h1.out).mono ?_; rintro e wz ⟨rfl, ⟨nd, rfl⟩⟩; clear h1) | (go_at_call 133; refine (gronx_zzContains.calls k _ _ _ _ h2.out).mono ?_; rintro e wz ⟨rfl, ⟨nd2, rfl⟩⟩; clear h2) | (go_at_call 136; refine (strconv_Atoi.calls _ _ _ _ ha.out).mono ?_; rintro e w2 ⟨rfl, hb2⟩; rw [errW_none]; obtain ⟨ad, rfl, y0, y1⟩ := two_int (Kd.R_reads' hR).2.2 rfl (by omega); have x0 := cell_after (by repeat (first | exact hb2 | exact below_step (by repeat (first | exact Below.refl _ _ | apply pw_below_drewN)) hb2)) y0; rw [g0] at x0; have x1 := cell_after (by repeat (first | exact hb2 | exact below_step (by repeat (first | exact Below.refl _ _ | apply pw_below_drewN)) hb2)) y1; rw [g1] at x1))
 go_ret2
 exact ⟨_, rfl, .inl ⟨rfl, rfl⟩, below_step (by repeat (first | exact hb1 | apply pw_below_drewN)) hb2⟩
set_option maxRecDepth 100000 in
set_option maxHeartbeats 800000 in
theorem offNum_nz (c : Nat) (o : ByteArray) (k : Nat) (val : Int) (t : List Int) (pos : Nat) (s1 : o.toList ≠ ([42] : List UInt8)) (s2 : o.toList ≠ ([63] : List UInt8)) (hb : gronx_boundsByPos.f k (pos : Int) = some t) (ht : t.length = 2) (n : Int) (h1 : gronx_zzContains.f k o ⟨#[47]⟩ = some false) (h2 : gronx_zzContains.f k o ⟨#[45]⟩ = some false) (ha : strconv_Atoi.f o = some (n, none)) (hlo : rd t 0 ≤ n) (hhi : n ≤ rd t 1) (hp : pos ≠ 5) (hv : val ≠ 0) (hn : n = 0)  : OffC c val pos o false false := by
 intro w
 have hb := Aside0.mk hb
 have q1 : (o.toList == ([42] : List UInt8)) = false := beq_eq_false_iff_ne.mpr s1
 have q2 : (o.toList == ([63] : List UInt8)) = false := beq_eq_false_iff_ne.mpr s2
 have h1 := Aside0.mk h1
 have h2 := Aside0.mk h2
 have ha := Aside0.mk ha
 have qi0 : (0 < t.length) = True := eq_true (by omega)
 have qi1 : (0 < (t.length : Int)) = True := eq_true (by omega)
 have qi2 : (1 < t.length) = True := eq_true (by omega)
 have qi3 : (1 < (t.length : Int)) = True := eq_true (by omega)
 have g0 : ∃ lo, rd t 0 = lo := ⟨_, rfl⟩
 have g1 : ∃ hi, rd t 1 = hi := ⟨_, rfl⟩
 obtain ⟨lo, g0⟩ := g0
 obtain ⟨hi, g1⟩ := g1
 rw [g0] at hlo
 rw [g1] at hhi
 have n4 : ¬ n < lo := by omega
 have n5 : ¬ hi < n := by omega
 have e5 : ((pos : Int) == 5) = false := by simp; omega
 clear hp
 have f1 : (val == 0) = false := by simp [hv]
 have f2 : (n == 0) = true := by simp [hn]
 clear hn
 go_enter Tryz.func117, Tryz.ntmps117
 go_wp2_with (first | (go_at_call 132; refine (gronx_boundsByPos.calls k _ _ _ hb.out).mono ?_; rintro e w1 ⟨v0, rfl, hR, hb1⟩; obtain ⟨A, cc, rfl⟩ := Kd.R_slice hR) | (go_at_call 133; refine (gronx_zzContains.calls k _ _ _ _ h1.out).mono ?_; rintro e wz ⟨rfl, ⟨nd, rfl⟩⟩; clear h1) | (go_at_call 133; refine (gronx_zzContains.calls k _ _ _ _ h2.out).mono ?_; rintro e wz ⟨rfl, ⟨nd2, rfl⟩⟩; clear h2) | (go_at_call 136; refine (strconv_Atoi.calls _ _ _ _ ha.out).mono ?_; rintro e w2 ⟨rfl, hb2⟩; rw [errW_none]; obtain ⟨ad, rfl, y0, y1⟩ := two_int (Kd.R_reads' hR).2.2 rfl (by omega); have x0 := cell_after (by repeat (first | exact hb2 | exact below_step (by repeat (first | exact Below.refl _ _ | apply pw_below_drewN)) hb2)) y0; rw [g0] at x0; have x1 := cell_after (by repeat (first | exact hb2 | exact below_step (by repeat (first | exact Below.refl _ _ | apply pw_below_drewN)) hb2)) y1; rw [g1] at x1))
 go_ret2
 exact ⟨_, rfl, .inl ⟨rfl, rfl⟩, below_step (by repeat (first | exact hb1 | apply pw_below_drewN)) hb2⟩
set_option maxRecDepth 100000 in
set_option maxHeartbeats 800000 in
theorem offNum_eq (c : Nat) (o : ByteArray) (k : Nat) (val : Int) (t : List Int) (pos : Nat) (s1 : o.toList ≠ ([42] : List UInt8)) (s2 : o.toList ≠ ([63] : List UInt8)) (hb : gronx_boundsByPos.f k (pos : Int) = some t) (ht : t.length = 2) (n : Int) (h1 : gronx_zzContains.f k o ⟨#[47]⟩ = some false) (h2 : gronx_zzContains.f k o ⟨#[45]⟩ = some false) (ha : strconv_Atoi.f o = some (n, none)) (hlo : rd t 0 ≤ n) (hhi : n ≤ rd t 1) (hp : pos ≠ 5) (hv : val ≠ 0) (hn0 : n ≠ 0) (hn : n = val)  : OffC c val pos o true false := by
 intro w
 have hb := Aside0.mk hb
 have q1 : (o.toList == ([42] : List UInt8)) = false := beq_eq_false_iff_ne.mpr s1
 have q2 : (o.toList == ([63] : List UInt8)) = false := beq_eq_false_iff_ne.mpr s2
 have h1 := Aside0.mk h1
 have h2 := Aside0.mk h2
 have ha := Aside0.mk ha
 have qi0 : (0 < t.length) = True := eq_true (by omega)
 have qi1 : (0 < (t.length : Int)) = True := eq_true (by omega)
 have qi2 : (1 < t.length) = True := eq_true (by omega)
 have qi3 : (1 < (t.length : Int)) = True := eq_true (by omega)
 have g0 : ∃ lo, rd t 0 = lo := ⟨_, rfl⟩
 have g1 : ∃ hi, rd t 1 = hi := ⟨_, rfl⟩
 obtain ⟨lo, g0⟩ := g0
 obtain ⟨hi, g1⟩ := g1
 rw [g0] at hlo
 rw [g1] at hhi
 have n4 : ¬ n < lo := by omega
 have n5 : ¬ hi < n := by omega
 have e5 : ((pos : Int) == 5) = false := by simp; omega
 clear hp
 have f1 : (val == 0) = false := by simp [hv]
 have f2 : (n == 0) = false := by simp [hn0]
 have f3 : (n == val) = true := by simp [hn]
 clear hn
 go_enter Tryz.func117, Tryz.ntmps117
 go_wp2_with (first | (go_at_call 132; refine (gronx_boundsByPos.calls k _ _ _ hb.out).mono ?_; rintro e w1 ⟨v0, rfl, hR, hb1⟩; obtain ⟨A, cc, rfl⟩ := Kd.R_slice hR) | (go_at_call 133; refine (gronx_zzContains.calls k _ _ _ _ h1.out).mono ?_; rintro e wz ⟨rfl, ⟨nd, rfl⟩⟩; clear h1) | (go_at_call 133; refine (gronx_zzContains.calls k _ _ _ _ h2.out).mono ?_; rintro e wz ⟨rfl, ⟨nd2, rfl⟩⟩; clear h2) | (go_at_call 136; refine (strconv_Atoi.calls _ _ _ _ ha.out).mono ?_; rintro e w2 ⟨rfl, hb2⟩; rw [errW_none]; obtain ⟨ad, rfl, y0, y1⟩ := two_int (Kd.R_reads' hR).2.2 rfl (by omega); have x0 := cell_after (by repeat (first | exact hb2 | exact below_step (by repeat (first | exact Below.refl _ _ | apply pw_below_drewN)) hb2)) y0; rw [g0] at x0; have x1 := cell_after (by repeat (first | exact hb2 | exact below_step (by repeat (first | exact Below.refl _ _ | apply pw_below_drewN)) hb2)) y1; rw [g1] at x1))
 go_ret2
 exact ⟨_, rfl, .inl ⟨rfl, rfl⟩, below_step (by repeat (first | exact hb1 | apply pw_below_drewN)) hb2⟩
set_option maxRecDepth 100000 in
set_option maxHeartbeats 800000 in
theorem offNum_ne (c : Nat) (o : ByteArray) (k : Nat) (val : Int) (t : List Int) (pos : Nat) (s1 : o.toList ≠ ([42] : List UInt8)) (s2 : o.toList ≠ ([63] : List UInt8)) (hb : gronx_boundsByPos.f k (pos : Int) = some t) (ht : t.length = 2) (n : Int) (h1 : gronx_zzContains.f k o ⟨#[47]⟩ = some false) (h2 : gronx_zzContains.f k o ⟨#[45]⟩ = some false) (ha : strconv_Atoi.f o = some (n, none)) (hlo : rd t 0 ≤ n) (hhi : n ≤ rd t 1) (hp : pos ≠ 5) (hv : val ≠ 0) (hn0 : n ≠ 0) (hn : n ≠ val)  : OffC c val pos o false false := by
 intro w
 have hb := Aside0.mk hb
 have q1 : (o.toList == ([42] : List UInt8)) = false := beq_eq_false_iff_ne.mpr s1
 have q2 : (o.toList == ([63] : List UInt8)) = false := beq_eq_false_iff_ne.mpr s2
 have h1 := Aside0.mk h1
 have h2 := Aside0.mk h2
 have ha := Aside0.mk ha
 have qi0 : (0 < t.length) = True := eq_true (by omega)
 have qi1 : (0 < (t.length : Int)) = True := eq_true (by omega)
 have qi2 : (1 < t.length) = True := eq_true (by omega)
 have qi3 : (1 < (t.length : Int)) = True := eq_true (by omega)
 have g0 : ∃ lo, rd t 0 = lo := ⟨_, rfl⟩
 have g1 : ∃ hi, rd t 1 = hi := ⟨_, rfl⟩
 obtain ⟨lo, g0⟩ := g0
 obtain ⟨hi, g1⟩ := g1
 rw [g0] at hlo
 rw [g1] at hhi
 have n4 : ¬ n < lo := by omega
 have n5 : ¬ hi < n := by omega
 have e5 : ((pos : Int) == 5) = false := by simp; omega
 clear hp
 have f1 : (val == 0) = false := by simp [hv]
 have f2 : (n == 0) = false := by simp [hn0]
 have f3 : (n == val) = false := by simp [hn]
 go_enter Tryz.func117, Tryz.ntmps117
 go_wp2_with (first | (go_at_call 132; refine (gronx_boundsByPos.calls k _ _ _ hb.out).mono ?_; rintro e w1 ⟨v0, rfl, hR, hb1⟩; obtain ⟨A, cc, rfl⟩ := Kd.R_slice hR) | (go_at_call 133; refine (gronx_zzContains.calls k _ _ _ _ h1.out).mono ?_; rintro e wz ⟨rfl, ⟨nd, rfl⟩⟩; clear h1) | (go_at_call 133; refine (gronx_zzContains.calls k _ _ _ _ h2.out).mono ?_; rintro e wz ⟨rfl, ⟨nd2, rfl⟩⟩; clear h2) | (go_at_call 136; refine (strconv_Atoi.calls _ _ _ _ ha.out).mono ?_; rintro e w2 ⟨rfl, hb2⟩; rw [errW_none]; obtain ⟨ad, rfl, y0, y1⟩ := two_int (Kd.R_reads' hR).2.2 rfl (by omega); have x0 := cell_after (by repeat (first | exact hb2 | exact below_step (by repeat (first | exact Below.refl _ _ | apply pw_below_drewN)) hb2)) y0; rw [g0] at x0; have x1 := cell_after (by repeat (first | exact hb2 | exact below_step (by repeat (first | exact Below.refl _ _ | apply pw_below_drewN)) hb2)) y1; rw [g1] at x1))
 go_ret2
 exact ⟨_, rfl, .inl ⟨rfl, rfl⟩, below_step (by repeat (first | exact hb1 | apply pw_below_drewN)) hb2⟩
theorem decN_small (n : Nat) (h : n < 100) : decN n = if n < 10 then [UInt8.ofNat (48 + n)] else [UInt8.ofNat (48 + n / 10), UInt8.ofNat (48 + n % 10)] := by
 split
 ·rename_i h1; exact decN_lt n h1
 ·rename_i h1; rw [decN_ge n h1, decN_lt (n / 10) (by omega)]; rfl
theorem atoi_table : ∀ n : Fin 100, Lib.atoi (if n.val < 10 then [UInt8.ofNat (48 + n.val)] else [UInt8.ofNat (48 + n.val / 10), UInt8.ofNat (48 + n.val % 10)]) = some (n.val : Int) := by decide +kernel
theorem atoi_two (n : Nat) (h : n < 100) : strconv_Atoi.f (B (decN n)) = some ((n : Int), none) := by
 unfold strconv_Atoi.f
 have hl := decN_length n 1 (by simpa using h)
 rw [B_size, if_pos (by omega), B_data, decN_small n h, atoi_table ⟨n, h⟩]
 rfl
theorem dec_no (n : Nat) (c : UInt8) (hc : c.toNat < 48 ∨ 57 < c.toNat) : c ∉ decN n := fun e => by have := decN_digit n c e; omega
def loB (i : Nat) : Int := if i = 3 ∨ i = 4 then 1 else 0
def hiB (i : Nat) : Int := [59, 59, 23, 31, 12, 7, 9999].getD i 0
theorem bounds_ev (i : Nat) (hi : i ≤ 6) : Ev (fun k => gronx_boundsByPos.f k (i : Int)) [loB i, hiB i] := by
 match i, hi with
 | 0, _ => exact Ev.done fun k => rfl
 | 1, _ => exact Ev.done fun k => rfl
 | 2, _ => exact Ev.done fun k => rfl
 | 3, _ => exact Ev.done fun k => rfl
 | 4, _ => exact Ev.done fun k => rfl
 | 5, _ => exact Ev.done fun k => rfl
 | 6, _ => exact Ev.done fun k => rfl
theorem contains_no (c : UInt8) (l : List UInt8) (h : c ∉ l) (hl : l.length < 4611686018427387904) : Ev (fun k => gronx_zzContains.f k (B l) (B [c])) false := by
 unfold gronx_zzContains.f
 have := zzIndex_ev l [c] (by simp) hl (by simp)
 rw [idxL_one_none c l h 0] at this
 exact Ev.bind this (Ev.const rfl)
theorem contains_yes (c : UInt8) (p r : List UInt8) (h : c ∉ p) (hl : (p ++ c :: r).length < 4611686018427387904) : Ev (fun k => gronx_zzContains.f k (B (p ++ c :: r)) (B [c])) true := by
 unfold gronx_zzContains.f
 have := zzIndex_ev (p ++ c :: r) [c] (by simp) hl (by simp)
 rw [idxL_one_at c p r h 0] at this
 exact Ev.bind this (Ev.const (by rw [decide_eq_true (by omega)]))
theorem idxL_ge (m l : List UInt8) (i : Nat) : idxL m l i = -1 ∨ (i : Int) ≤ idxL m l i := by
 induction l generalizing i with
 | nil => exact Or.inl rfl
 | cons b t ih =>
  unfold idxL
  split
  ·split
   ·exact Or.inr (Int.le_refl _)
   ·rcases ih (i + 1) with h | h
    ·exact Or.inl h
    ·exact Or.inr (by omega)
  ·exact Or.inl rfl
theorem idxL_head (m : List UInt8) (b : UInt8) (t : List UInt8) (h : m.head? ≠ some b) (hm : m ≠ []) : idxL m (b :: t) 0 ≠ 0 := by
 unfold idxL
 split
 ·rw [if_neg (fun e => h (by rw [← e]; cases m with | nil => exact absurd rfl hm | cons a s => simp))]
  have := idxL_ge m t 1
  simp only [Nat.zero_add] at *
  omega
 ·decide
theorem idxL_starSlash (r : List UInt8) : idxL [42, 47] (42 :: 47 :: r) 0 = 0 := by
 unfold idxL
 rw [if_pos (by simp), if_pos (by simp)]
 rfl
theorem stepRange_ev (val en step : Int) (s0 : 1 ≤ step) (s1 : step ≤ 1000) (e1 : en ≤ 100000) :
  ∀ (d : Nat) (start : Int), (en - start).toNat ≤ d → 0 ≤ start → start ≤ 200000 → Ev (fun k => gronx_inStepRange.l0 k val en step start) (decide (start ≤ val ∧ val ≤ en ∧ (val - start) % step = 0)) := by
 intro d
 induction d with
 | zero =>
  intro start hd h0 h1
  by_cases hs : start ≤ en
  ·have he : start = en := by omega
   subst he
   by_cases hv : start ≤ val
   ·by_cases hq : start = val
    ·subst hq
     refine Ev.step (f := fun k => gronx_inStepRange.j1 k start start step start true) (fun k => ?_) (Ev.done fun k => ?_)
     ·simp only [gronx_inStepRange.l0]; rw [if_pos hs, decide_eq_true hv]
     ·simp only [gronx_inStepRange.j1]; simp
    ·refine Ev.step (f := fun k => gronx_inStepRange.j1 k val start step start true) (fun k => ?_) (Ev.step (f := fun k => gronx_inStepRange.l0 k val start step (start + step)) (fun k => ?_) (Ev.step (f := fun k => gronx_inStepRange.j1 k val start step (start + step) false) (fun k => ?_) (Ev.done fun k => ?_)))
     ·simp only [gronx_inStepRange.l0]; rw [if_pos hs, decide_eq_true hv]
     ·simp only [gronx_inStepRange.j1]; rw [if_pos trivial, if_neg hq, wrap64_id (by omega) (by omega)]
     ·simp only [gronx_inStepRange.l0]; rw [if_neg (by omega)]
     ·simp only [gronx_inStepRange.j1]; rw [if_neg (by simp), decide_eq_false (by omega)]
   ·refine Ev.step (f := fun k => gronx_inStepRange.j1 k val start step start false) (fun k => ?_) (Ev.done fun k => ?_)
    ·simp only [gronx_inStepRange.l0]; rw [if_pos hs, decide_eq_false hv]
    ·simp only [gronx_inStepRange.j1]; rw [if_neg (by simp), decide_eq_false (by omega)]
  ·refine Ev.step (f := fun k => gronx_inStepRange.j1 k val en step start false) (fun k => ?_) (Ev.done fun k => ?_)
   ·simp only [gronx_inStepRange.l0]; rw [if_neg hs]
   ·simp only [gronx_inStepRange.j1]; rw [if_neg (by simp), decide_eq_false (by omega)]
 | succ d ih =>
  intro start hd h0 h1
  by_cases hs : start ≤ en
  ·by_cases hv : start ≤ val
   ·by_cases hq : start = val
    ·subst hq
     refine Ev.step (f := fun k => gronx_inStepRange.j1 k start en step start true) (fun k => ?_) (Ev.done fun k => ?_)
     ·simp only [gronx_inStepRange.l0]; rw [if_pos hs, decide_eq_true hv]
     ·simp only [gronx_inStepRange.j1]; simp [hs]
    ·have hrec := ih (start + step) (by omega) (by omega) (by omega)
     have he : decide (start + step ≤ val ∧ val ≤ en ∧ (val - (start + step)) % step = 0) = decide (start ≤ val ∧ val ≤ en ∧ (val - start) % step = 0) := by
      have e1 : (val - (start + step)) % step = (val - start) % step := by
       rw [show val - (start + step) = (val - start) - step by omega, Int.sub_emod_right]
      rw [e1]
      by_cases hz : (val - start) % step = 0
      ·have : step ≤ val - start := Int.le_of_dvd (by omega) (Int.dvd_of_emod_eq_zero hz)
       have h2 : start + step ≤ val ↔ start ≤ val := by omega
       simp only [hz, h2]
      ·simp [hz]
     rw [he] at hrec
     refine Ev.step (f := fun k => gronx_inStepRange.j1 k val en step start true) (fun k => ?_) (Ev.step (f := fun k => gronx_inStepRange.l0 k val en step (start + step)) (fun k => ?_) hrec)
     ·simp only [gronx_inStepRange.l0]; rw [if_pos hs, decide_eq_true hv]
     ·simp only [gronx_inStepRange.j1]; rw [if_pos trivial, if_neg hq, wrap64_id (by omega) (by omega)]
   ·refine Ev.step (f := fun k => gronx_inStepRange.j1 k val en step start false) (fun k => ?_) (Ev.done fun k => ?_)
    ·simp only [gronx_inStepRange.l0]; rw [if_pos hs, decide_eq_false hv]
    ·simp only [gronx_inStepRange.j1]; rw [if_neg (by simp), decide_eq_false (by omega)]
  ·refine Ev.step (f := fun k => gronx_inStepRange.j1 k val en step start false) (fun k => ?_) (Ev.done fun k => ?_)
   ·simp only [gronx_inStepRange.l0]; rw [if_neg hs]
   ·simp only [gronx_inStepRange.j1]; rw [if_neg (by simp), decide_eq_false (by omega)]
theorem inStepRange_ev (val start en step : Int) (s0 : 1 ≤ step) (s1 : step ≤ 1000) (e1 : en ≤ 100000) (h0 : 0 ≤ start) (h1 : start ≤ 200000) :
  Ev (fun k => gronx_inStepRange.f k val start en step) (decide (start ≤ val ∧ val ≤ en ∧ (val - start) % step = 0)) := stepRange_ev val en step s0 s1 e1 _ start (Nat.le_refl _) h0 h1
theorem Ev.succ {α : Type} {g : Nat → Option α} {r : α} (h : Ev (fun k => g (k + 1)) r) : Ev g r := Ev.step (fun _ => rfl) h
theorem dec_head' (n : Nat) (r : List UInt8) : ∃ b t, decN n ++ r = b :: t ∧ 48 ≤ b.toNat ∧ b.toNat ≤ 57 := by
 match h : decN n, decN_ne n with
 | b :: t, _ => exact ⟨b, t ++ r, rfl, decN_digit n b (by rw [h]; simp)⟩
theorem dec_ne' (n : Nat) (r : List UInt8) (c : UInt8) (t : List UInt8) (hc : c.toNat < 48 ∨ 57 < c.toNat) : decN n ++ r ≠ c :: t := by
 obtain ⟨b, s, e, h1, h2⟩ := dec_head' n r
 rw [e]
 intro h
 have := (List.cons.inj h).1
 subst this
 omega
theorem split_two' (c : UInt8) (p q : List UInt8) (hp : c ∉ p) (hq : c ∉ q) (hl : (p ++ c :: q).length < 8796093022208) : Ev (fun k => gronx_zzSplit.f k (B (p ++ c :: q)) (B [c])) [B p, B q] := by
 have := zzSplit_ev c (p ++ c :: q) hl
 rw [splitL_at c p q hp, splitL_none c q hq] at this
 exact this
theorem idx_zero' (a : Nat) (r : List UInt8) : idxL [48, 47] (decN a ++ 45 :: r) 0 ≠ 0 := by
 obtain ⟨d, t, e, h1, h2⟩ := dec_head' a []
 rw [List.append_nil] at e
 rw [e, List.cons_append]
 intro h
 unfold idxL at h
 split at h
 ·split at h
  ·rename_i h3
   have h4 : (t ++ 45 :: r).head? = some 47 := by
    have : (d :: (t ++ 45 :: r)).take 2 = [48, 47] := h3
    cases hh : t ++ 45 :: r with
    | nil => rw [hh] at this; simp at this
    | cons u v => rw [hh] at this; simp at this; simp [this.2]
   cases t with
   | nil => simp at h4
   | cons u v =>
    have hu : u = 47 := by simpa using h4
    have := decN_digit a u (by rw [e]; simp)
    subst hu
    simp at this
  ·have := idxL_ge [48, 47] (t ++ 45 :: r) (0 + 1)
   omega
 ·exact absurd h (by decide)
theorem offC_num (c : Nat) (n : Nat) (hn : n < 100) (i : Nat) (hi : i ≤ 6) (val : Int) (lo : loB i ≤ (n : Int)) (hi' : (n : Int) ≤ hiB i) (h5 : i = 5 → n ≤ 6) : OffC c val i (B (decN n)) (decide ((n : Int) = val)) false := by
 have hl := decN_length n 1 (by simpa using hn)
 obtain ⟨K1, hK1⟩ := bounds_ev i hi
 obtain ⟨K2, hK2⟩ := contains_no 47 _ (dec_no n 47 (by decide)) (by omega)
 obtain ⟨K3, hK3⟩ := contains_no 45 _ (dec_no n 45 (by decide)) (by omega)
 have f1 := hK1 (max K1 (max K2 K3)) (by omega)
 have f2 := hK2 (max K1 (max K2 K3)) (by omega)
 have f3 := hK3 (max K1 (max K2 K3)) (by omega)
 have s1 : (B (decN n)).toList ≠ ([42] : List UInt8) := by rw [B_list]; simpa using dec_ne' n [] 42 [] (by decide)
 have s2 : (B (decN n)).toList ≠ ([63] : List UInt8) := by rw [B_list]; simpa using dec_ne' n [] 63 [] (by decide)
 have ha := atoi_two n hn
 by_cases e5 : i = 5
 ·by_cases e : (n : Int) = val
  ·rw [decide_eq_true e]; exact offNum_wd_eq c _ _ val _ i s1 s2 f1 rfl n f2 f3 ha lo hi' e5 e
  ·rw [decide_eq_false e]; exact offNum_wd_ne c _ _ val _ i s1 s2 f1 rfl n f2 f3 ha lo hi' e5 (by have := h5 e5; omega) e
 ·by_cases v0 : val = 0
  ·by_cases n0 : (n : Int) = 0
   ·rw [decide_eq_true (by omega)]; exact offNum_zz c _ _ val _ i s1 s2 f1 rfl n f2 f3 ha lo hi' e5 v0 n0
   ·rw [decide_eq_false (by omega)]; exact offNum_zn c _ _ val _ i s1 s2 f1 rfl n f2 f3 ha lo hi' e5 v0 n0
  ·by_cases n0 : (n : Int) = 0
   ·rw [decide_eq_false (by omega)]; exact offNum_nz c _ _ val _ i s1 s2 f1 rfl n f2 f3 ha lo hi' e5 v0 n0
   ·by_cases e : (n : Int) = val
    ·rw [decide_eq_true e]; exact offNum_eq c _ _ val _ i s1 s2 f1 rfl n f2 f3 ha lo hi' e5 v0 n0 e
    ·rw [decide_eq_false e]; exact offNum_ne c _ _ val _ i s1 s2 f1 rfl n f2 f3 ha lo hi' e5 v0 n0 e
theorem offC_range (c : Nat) (a b : Nat) (hb : b < 100) (hab : a ≤ b) (i : Nat) (hi : i ≤ 6) (val : Int) (lo : loB i ≤ (a : Int)) (hi' : (b : Int) ≤ hiB i) (h5 : i = 5 → b ≤ 6) : OffC c val i (B (decN a ++ 45 :: decN b)) (decide ((a : Int) ≤ val ∧ val ≤ (b : Int))) false := by
 have la := decN_length a 1 (by omega)
 have lb := decN_length b 1 (by omega)
 have hlen : (decN a ++ 45 :: decN b).length ≤ 5 := by simp; omega
 obtain ⟨K1, hK1⟩ := bounds_ev i hi
 obtain ⟨K2, hK2⟩ := contains_no 47 (decN a ++ 45 :: decN b) (by simp [dec_no a 47 (by decide), dec_no b 47 (by decide)]) (by omega)
 obtain ⟨K3, hK3⟩ := contains_yes 45 _ _ (dec_no a 45 (by decide)) (by omega : (decN a ++ 45 :: decN b).length < _)
 obtain ⟨K4, hK4⟩ := split_two' 45 _ _ (dec_no a 45 (by decide)) (dec_no b 45 (by decide)) (by omega : (decN a ++ 45 :: decN b).length < _)
 have f1 := hK1 (max (max K1 K4) (max K2 K3)) (by omega)
 have f2 := hK2 (max (max K1 K4) (max K2 K3)) (by omega)
 have f3 := hK3 (max (max K1 K4) (max K2 K3)) (by omega)
 have f4 := hK4 (max (max K1 K4) (max K2 K3)) (by omega)
 have s1 : (B (decN a ++ 45 :: decN b)).toList ≠ ([42] : List UInt8) := by rw [B_list]; exact dec_ne' a _ 42 [] (by decide)
 have s2 : (B (decN a ++ 45 :: decN b)).toList ≠ ([63] : List UInt8) := by rw [B_list]; exact dec_ne' a _ 63 [] (by decide)
 have a0 := atoi_two a (by omega)
 have b0 := atoi_two b hb
 refine offRange_w c _ _ val [loB i, hiB i] i s1 s2 f1 f2 f3 _ ?_
 by_cases e5 : i = 5
 ·have e : ((i : Int) == 5) = true := by simp; omega
  rw [e]
  have b6 := h5 e5
  by_cases hv : (a : Int) ≤ val
  ·rw [show decide ((a : Int) ≤ val ∧ val ≤ (b : Int)) = decide (val ≤ (b : Int)) from decide_eq_decide.mpr ⟨fun h => h.2, fun h => ⟨hv, h⟩⟩]
   exact range_in_wd val a b _ _ _ _ f4 rfl a0 b0 rfl (by omega) lo hi' (by omega) hv
  ·rw [decide_eq_false (fun h => hv h.1)]
   exact range_out_wd val a b _ _ _ _ f4 rfl a0 b0 rfl (by omega) lo hi' (by omega) hv
 ·have e : ((i : Int) == 5) = false := by simp; omega
  rw [e]
  by_cases hv : (a : Int) ≤ val
  ·rw [show decide ((a : Int) ≤ val ∧ val ≤ (b : Int)) = decide (val ≤ (b : Int)) from decide_eq_decide.mpr ⟨fun h => h.2, fun h => ⟨hv, h⟩⟩]
   exact range_in val a b _ _ _ _ f4 rfl a0 b0 rfl (by omega) lo hi' hv
  ·rw [decide_eq_false (fun h => hv h.1)]
   exact range_out val a b _ _ _ _ f4 rfl a0 b0 rfl (by omega) lo hi' hv
theorem offC_sstep (c : Nat) (s : Nat) (s0 : 1 ≤ s) (s1 : s < 100) (i : Nat) (hi : i ≤ 6) (val : Int) (lo : loB i ≤ val) (hv : val ≤ 10000) : OffC c val i (B (42 :: 47 :: decN s)) (decide ((val - loB i) % (s : Int) = 0)) false := by
 have ls := decN_length s 1 (by simpa using s1)
 have hb : 0 ≤ loB i := by unfold loB; split <;> omega
 have hlen : ([42] ++ 47 :: decN s).length ≤ 5 := by simp; omega
 obtain ⟨K1, hK1⟩ := bounds_ev i hi
 obtain ⟨K2, hK2⟩ := contains_yes 47 [42] (decN s) (by simp) (by omega)
 obtain ⟨K3, hK3⟩ := split_two' 47 [42] (decN s) (by simp) (dec_no s 47 (by decide)) (by omega)
 obtain ⟨K4, hK4⟩ := zzIndex_ev ([42] ++ 47 :: decN s) [42, 47] (by simp) (by omega) (by simp)
 have f1 := hK1 (max (max K1 K4) (max K2 K3)) (by omega)
 have f2 := hK2 (max (max K1 K4) (max K2 K3)) (by omega)
 have f3 := hK3 (max (max K1 K4) (max K2 K3)) (by omega)
 have f4 := hK4 (max (max K1 K4) (max K2 K3)) (by omega)
 rw [show idxL [42, 47] ([42] ++ 47 :: decN s) 0 = 0 from idxL_starSlash _] at f4
 exact offStep_w c _ _ val [loB i, hiB i] i (by rw [B_list]; simp) (by rw [B_list]; simp) f1 f2 _ (sstep_w val s _ _ _ _ _ f3 rfl (atoi_two s s1) (by omega) (by omega) f4 rfl lo (by omega) hb)
theorem offC_rstep (c : Nat) (a b s : Nat) (hb : b < 100) (hab : a ≤ b) (s0 : 1 ≤ s) (s1 : s < 100) (i : Nat) (hi : i ≤ 6) (val : Int) (lo : loB i ≤ (a : Int)) (hi' : (b : Int) ≤ hiB i) (h5 : i = 5 → b ≤ 6) : OffC c val i (B (decN a ++ 45 :: decN b ++ 47 :: decN s)) (decide ((a : Int) ≤ val ∧ val ≤ (b : Int) ∧ (val - a) % (s : Int) = 0)) false := by
 have la := decN_length a 1 (by omega)
 have lb := decN_length b 1 (by omega)
 have ls := decN_length s 1 (by omega)
 have hlen : (decN a ++ 45 :: decN b ++ 47 :: decN s).length ≤ 8 := by simp; omega
 have hlen2 : (decN a ++ 45 :: decN b).length ≤ 8 := by simp; omega
 have hno : (47 : UInt8) ∉ decN a ++ 45 :: decN b := by simp [dec_no a 47 (by decide), dec_no b 47 (by decide)]
 have n1 : idxL [42, 47] (decN a ++ 45 :: decN b ++ 47 :: decN s) 0 ≠ 0 := by
  obtain ⟨d, t, e, h1, h2⟩ := dec_head' a (45 :: decN b ++ 47 :: decN s)
  rw [List.append_assoc, e]
  refine idxL_head _ d t (fun h => ?_) (by simp)
  have : d = 42 := by simpa using h.symm
  subst this; simp at h1
 have n2 : idxL [48, 47] (decN a ++ 45 :: decN b ++ 47 :: decN s) 0 ≠ 0 := by rw [List.append_assoc]; exact idx_zero' a _
 have hg : ∀ v : Int, Ev (fun k => gronx_inStepRange.f k v a b s) (decide ((a : Int) ≤ v ∧ v ≤ (b : Int) ∧ (v - a) % (s : Int) = 0)) := fun v => inStepRange_ev v a b s (by omega) (by omega) (by omega) (by omega) (by omega)
 obtain ⟨K1, hK1⟩ := bounds_ev i hi
 obtain ⟨K2, hK2⟩ := contains_yes 47 (decN a ++ 45 :: decN b) (decN s) hno (by omega)
 obtain ⟨K3, hK3⟩ := split_two' 47 (decN a ++ 45 :: decN b) (decN s) hno (dec_no s 47 (by decide)) (by omega)
 obtain ⟨K4, hK4⟩ := zzIndex_ev (decN a ++ 45 :: decN b ++ 47 :: decN s) [42, 47] (by simp) (by omega) (by simp)
 obtain ⟨K5, hK5⟩ := zzIndex_ev (decN a ++ 45 :: decN b ++ 47 :: decN s) [48, 47] (by simp) (by omega) (by simp)
 obtain ⟨K6, hK6⟩ := split_two' 45 (decN a) (decN b) (dec_no a 45 (by decide)) (dec_no b 45 (by decide)) (by omega)
 obtain ⟨K7, hK7⟩ := hg val
 obtain ⟨K8, hK8⟩ := hg 0
 obtain ⟨K9, hK9⟩ := hg 7
 obtain ⟨K, hK⟩ : ∃ K, K1 ≤ K ∧ K2 ≤ K ∧ K3 ≤ K ∧ K4 ≤ K ∧ K5 ≤ K ∧ K6 ≤ K ∧ K7 ≤ K ∧ K8 ≤ K ∧ K9 ≤ K := ⟨K1 + K2 + K3 + K4 + K5 + K6 + K7 + K8 + K9, by omega⟩
 have f1 := hK1 K (by omega)
 have f2 := hK2 K (by omega)
 have f3 := hK3 K (by omega)
 have f4 := hK4 K (by omega)
 have f5 := hK5 K (by omega)
 have f6 := hK6 K (by omega)
 have f7 := hK7 K (by omega)
 have f8 := hK8 K (by omega)
 have f9 := hK9 K (by omega)
 have a0 := atoi_two a (by omega)
 have b0 := atoi_two b hb
 have s0' := atoi_two s s1
 refine offStep_w c _ K val [loB i, hiB i] i (by rw [B_list, List.append_assoc]; exact dec_ne' a _ 42 [] (by decide)) (by rw [B_list, List.append_assoc]; exact dec_ne' a _ 63 [] (by decide)) f1 f2 _ ?_
 by_cases e5 : i = 5
 ·have e : ((i : Int) == 5) = true := by simp; omega
  rw [e]
  have b6 := h5 e5
  by_cases hv : val = 0
  ·subst hv
   by_cases hq : (a : Int) ≤ 0 ∧ (0 : Int) ≤ (b : Int) ∧ ((0 : Int) - a) % (s : Int) = 0
   ·rw [decide_eq_true hq] at f8 ⊢
    exact rstep_zero_yes s a b _ [loB i, hiB i] K _ _ _ _ f3 rfl s0' (by omega) f4 n1 f5 n2 f6 rfl a0 b0 rfl (by omega) lo hi' (by omega) f8
   ·rw [decide_eq_false hq] at f8 ⊢
    rw [decide_eq_false (by omega)] at f9
    exact rstep_zero_no s a b _ [loB i, hiB i] K _ _ _ _ f3 rfl s0' (by omega) f4 n1 f5 n2 f6 rfl a0 b0 rfl (by omega) lo hi' (by omega) _ f8 f9
  ·exact rstep_wd val s a b _ [loB i, hiB i] K _ _ _ _ f3 rfl s0' (by omega) f4 n1 f5 n2 f6 rfl a0 b0 rfl (by omega) lo hi' (by omega) hv _ f7
 ·have e : ((i : Int) == 5) = false := by simp; omega
  rw [e]
  exact rstep_plain val s a b _ [loB i, hiB i] K _ _ _ _ f3 rfl s0' (by omega) f4 n1 f5 n2 f6 rfl a0 b0 rfl (by omega) lo hi' _ f7
theorem decInt (n : Int) (h : 0 ≤ n) : ((n.toNat : Nat) : Int) = n := by omega
theorem hiB_ge (i : Nat) (hi : i < 6) : highI i ≤ hiB i ∧ loB i = lowI i ∧ (i = 5 → highI i ≤ 6) := by
 match i, hi with
 | 0, _ | 1, _ | 2, _ | 3, _ | 4, _ | 5, _ => decide
theorem offC_item (c : Nat) (i : Nat) (hi : i < 6) (x : It) (hg : goodItem i x = true) (n : Int) (n0 : lowI i ≤ n) (n1 : n ≤ highI i) :
  OffC c n i (B (itemL x)) (hasIt i x n) false := by
 obtain ⟨s1, s2, hr⟩ := goodItem_spec hg
 obtain ⟨b1, b2, b3⟩ := hiB_ge i hi
 have hlo := lowI_ge i
 have hle := highI_le i
 by_cases h0 : x.f0 = true
 ·have e0 : hasIt i x n = decide ((n - lowI i) % x.f3 = 0) := by simp [hasIt, h0, n0, n1]
  by_cases hs : 1 < x.f3
  ·have := offC_sstep c x.f3.toNat (by omega) (by omega) i (by omega) n (by omega) (by omega)
   rw [decInt _ (by omega), b2] at this
   rw [e0, show itemL x = 42 :: 47 :: decN x.f3.toNat by simp [itemL, h0, stepL, hs]]
   exact this
  ·have h1 : x.f3 = 1 := by omega
   rw [e0, show itemL x = [42] by simp [itemL, h0, stepL, hs], h1, decide_eq_true (by omega)]
   exact offStar_w c n i
 ·have h0' : x.f0 = false := by simpa using h0
  obtain ⟨r1, r2, r3, r4, r5⟩ := hr h0'
  have e0 : hasIt i x n = decide (x.f1 ≤ n ∧ n ≤ x.f2 ∧ (n - x.f1) % x.f3 = 0) := by simp [hasIt, h0']
  by_cases hs : 1 < x.f3
  ·have := offC_rstep c x.f1.toNat x.f2.toNat x.f3.toNat (by omega) (by omega) (by omega) (by omega) i (by omega) n (by omega) (by omega) (fun h => by have := b3 h; omega)
   rw [decInt _ (by omega), decInt _ (by omega), decInt _ (by omega)] at this
   rw [e0, show itemL x = decN x.f1.toNat ++ 45 :: decN x.f2.toNat ++ 47 :: decN x.f3.toNat by simp [itemL, h0', stepL, hs]]
   exact this
  ·have h1 : x.f3 = 1 := by omega
   by_cases hq : x.f1 < x.f2
   ·have := offC_range c x.f1.toNat x.f2.toNat (by omega) (by omega) i (by omega) n (by omega) (by omega) (fun h => by have := b3 h; omega)
    rw [decInt _ (by omega), decInt _ (by omega)] at this
    rw [e0, show itemL x = decN x.f1.toNat ++ 45 :: decN x.f2.toNat by simp [itemL, h0', stepL, hs, hq], h1, show decide (x.f1 ≤ n ∧ n ≤ x.f2 ∧ (n - x.f1) % 1 = 0) = decide (x.f1 ≤ n ∧ n ≤ x.f2) by simp [Int.emod_one]]
    exact this
   ·have := offC_num c x.f1.toNat (by omega) i (by omega) n (by omega) (by omega) (fun h => by have := b3 h; omega)
    rw [decInt _ (by omega)] at this
    rw [e0, show itemL x = decN x.f1.toNat by simp [itemL, h0', stepL, hs, hq], h1, show decide (x.f1 ≤ n ∧ n ≤ x.f2 ∧ (n - x.f1) % 1 = 0) = decide (x.f1 = n) by simp only [Int.emod_one, and_true]; exact decide_eq_decide.mpr (by omega)]
    exact this
theorem any_from (l m : List UInt8) (hl : l.length < 4611686018427387904) (hm : m.length < 4611686018427387904) :
  ∀ (rest : List UInt8) (i : Nat), l.drop i = rest → i ≤ l.length → Ev (fun k => gronx_zzContainsAny.l0 k (B l) (B m) (i : Int)) (rest.any fun b => m.contains b) := by
 intro rest
 induction rest with
 | nil =>
  intro i hi hil
  have hlen : l.length ≤ i := List.drop_eq_nil_iff.1 hi
  refine Ev.done fun k => ?_
  simp only [gronx_zzContainsAny.l0, B_size]
  rw [if_neg (by omega)]
  rfl
 | cons b t ih =>
  intro i hi hil
  have hlen : t.length + 1 = l.length - i := by have := congrArg List.length hi; simpa using this.symm
  have hlt : i < l.length := by omega
  have hb : l[i] = b := by
   have := List.drop_eq_getElem_cons hlt
   rw [hi] at this
   exact (List.cons.inj this).1.symm
  have ht : l.drop (i + 1) = t := by rw [← List.drop_drop, hi]; rfl
  have hrec := ih (i + 1) ht (by omega)
  have inner : ∀ (rm : List UInt8) (j : Nat), m.drop j = rm → j ≤ m.length → Ev (fun k => gronx_zzContainsAny.l1 k (B l) (B m) (i : Int) (j : Int)) (rm.contains b || t.any fun b => m.contains b) := by
   intro rm
   induction rm with
   | nil =>
    intro j hj hjl
    have hlen : m.length ≤ j := List.drop_eq_nil_iff.1 hj
    refine Ev.step (f := fun k => gronx_zzContainsAny.l0 k (B l) (B m) ((i + 1 : Nat) : Int)) (fun k => ?_) (by simpa using hrec)
    simp only [gronx_zzContainsAny.l1, B_size]
    rw [if_neg (by omega), wrap64_nat i (by omega)]
   | cons c s ihs =>
    intro j hj hjl
    have hlen : s.length + 1 = m.length - j := by have := congrArg List.length hj; simpa using this.symm
    have hjt : j < m.length := by omega
    have hc : m[j] = c := by
     have := List.drop_eq_getElem_cons hjt
     rw [hj] at this
     exact (List.cons.inj this).1.symm
    have hs : m.drop (j + 1) = s := by rw [← List.drop_drop, hj]; rfl
    have e1 : bt (B l) (i : Int) = (b.toNat : Int) := by rw [bt_B_at l i hlt, hb]
    have e2 : bt (B m) (j : Int) = (c.toNat : Int) := by rw [bt_B_at m j hjt, hc]
    by_cases hbc : b = c
    ·refine Ev.done fun k => ?_
     simp only [gronx_zzContainsAny.l1, B_size, e1, e2]
     rw [if_pos (by omega), if_pos (by omega), if_pos (by omega), if_pos (by omega), if_pos (by rw [hbc])]
     simp [hbc]
    ·have hne : ¬ ((b.toNat : Int) = (c.toNat : Int)) := fun e => hbc (UInt8.toNat_inj.1 (by omega))
     refine Ev.step (f := fun k => gronx_zzContainsAny.l1 k (B l) (B m) (i : Int) ((j + 1 : Nat) : Int)) (fun k => ?_) (by simpa [hbc] using ihs (j + 1) hs (by omega))
     simp only [gronx_zzContainsAny.l1, B_size, e1, e2]
     rw [if_pos (by omega), if_pos (by omega), if_pos (by omega), if_pos (by omega), if_neg hne, wrap64_nat j (by omega)]
  refine Ev.step (f := fun k => gronx_zzContainsAny.l1 k (B l) (B m) (i : Int) ((0 : Nat) : Int)) (fun k => ?_) (inner m 0 rfl (Nat.zero_le _))
  simp only [gronx_zzContainsAny.l0, B_size]
  rw [if_pos (by omega)]
  rfl
theorem any_ev (l m : List UInt8) (hl : l.length < 4611686018427387904) (hm : m.length < 4611686018427387904) : Ev (fun k => gronx_zzContainsAny.f k (B l) (B m)) (l.any fun b => m.contains b) := any_from l m hl hm l 0 rfl (Nat.zero_le _)
end Go.Proofs.YtemgofomhjabpaaGreatDoor.Core
namespace Go.Proofs.YtemgofomhjabpaaGreatDoor.Core
open Go.RowKit
def DueC (t : ByteArray) (y mo d h mi s : Int) (b ok : Bool) : Prop := ∀ w, Calls Tryz.prog 14 #[.string t, .agg #[.int .i64 y, .int .i64 mo, .int .i64 d, .int .i64 h, .int .i64 mi, .int .i64 s]] w fun e w' => e = .returned (.tuple #[.bool b, .bool ok]) ∧ Below w.heap.size w w'
open Classical in
noncomputable def impl_Due.f (t : ByteArray) (y mo d h mi s : Int) : Option (Bool × Bool) :=
 if hx : ∃ p : Bool × Bool, DueC t y mo d h mi s p.1 p.2 then some (Classical.choose hx) else none
theorem DueC.eq {t : ByteArray} {y mo d h mi s : Int} {b ok : Bool} (hd : DueC t y mo d h mi s b ok) : impl_Due.f t y mo d h mi s = some (b, ok) := by
 have hx : ∃ p : Bool × Bool, DueC t y mo d h mi s p.1 p.2 := ⟨(b, ok), hd⟩
 unfold impl_Due.f
 rw [dif_pos hx]
 have hp := Classical.choose_spec hx
 have e := calls_one (hp default) (hd default) (by kernel_rfl)
 injection e with e
 generalize Classical.choose hx = p at e
 obtain ⟨p1, p2⟩ := p
 simp at e
 rw [e.1, e.2]
end Go.Proofs.YtemgofomhjabpaaGreatDoor.Core
namespace Go.Proofs.YtemgofomhjabpaaGreatDoor.Core
open Go.RowKit Go.Proofs.YtemgofomhjabpaaGreatDoorW.PrintWords
theorem new_c (w : World) : Calls Tryz.prog 31 #[] w fun e w' => ∃ G C v0 v1 v2, e = .returned (.pointer (some ⟨G, 0, none⟩)) ∧ w'.cell? ⟨G, 0, none⟩ = some (.iface 92 (.pointer (some ⟨C, 0, none⟩))) ∧ w'.cell? ⟨C, 0, none⟩ = some v0 ∧ w'.cell? ⟨C, 1, none⟩ = some v1 ∧ w'.cell? ⟨C, 2, none⟩ = some v2 ∧
  w'.frozen? ⟨C, 0, none⟩ = false ∧ w'.frozen? ⟨C, 1, none⟩ = false ∧ w'.frozen? ⟨C, 2, none⟩ = false ∧ w.heap.size ≤ C ∧ C < G ∧ Below w.heap.size w w' := by
 refine (new_w w).mono ?_
 rintro e w' ⟨rfl, rfl⟩
 exact ⟨w.heap.size + 1, w.heap.size, _, _, _, rfl, by simp [go_sem], by simp [go_sem]; rfl, by simp [go_sem]; rfl, by simp [go_sem]; rfl, by simp [go_sem], by simp [go_sem], by simp [go_sem], Nat.le_refl _, Nat.lt_succ_self _, below_alloc (below_alloc (Below.refl _ _) _) _⟩
def SM (n : Nat) (y mo d h mi s : Int) (w' : World) : Prop := n < w'.heap.size ∧ w'.cell? ⟨n, 0, none⟩ = some (.int .i64 y) ∧ w'.cell? ⟨n, 1, none⟩ = some (.int .i64 mo) ∧ w'.cell? ⟨n, 2, none⟩ = some (.int .i64 d) ∧ w'.cell? ⟨n, 3, none⟩ = some (.int .i64 h) ∧ w'.cell? ⟨n, 4, none⟩ = some (.int .i64 mi) ∧ w'.cell? ⟨n, 5, none⟩ = some (.int .i64 s)
theorem SM.below {n B : Nat} {y mo d h mi s : Int} {a b : World} (hb : Below B a b) (hn : n < B) (hS : SM n y mo d h mi s a) : SM n y mo d h mi s b := by
 have hk := fun j v (e : a.cell? ⟨n, j, none⟩ = some v) => (show b.cell? ⟨n, j, none⟩ = some v by rw [← e]; simp only [World.cell?, hb.block n hn])
 obtain ⟨h0, h1, h2, h3, h4, h5, h6⟩ := hS
 exact ⟨Nat.lt_of_lt_of_le h0 hb.size, hk _ _ h1, hk _ _ h2, hk _ _ h3, hk _ _ h4, hk _ _ h5, hk _ _ h6⟩
theorem SM.step {n : Nat} {y mo d h mi s : Int} {a b : World} (hb : Below a.heap.size a b) (hS : SM n y mo d h mi s a) : SM n y mo d h mi s b := SM.below hb hS.1 hS
theorem SM.lt {n : Nat} {y mo d h mi s : Int} {a : World} (hS : SM n y mo d h mi s a) : n < a.heap.size := hS.1
theorem frz_after {a b : World} {p : Addr} (hb : Below a.heap.size a b) (hl : p.block < a.heap.size) (h : a.frozen? p = false) : b.frozen? p = false := (hb.frozen hl).trans h
theorem dueL_items (c : Nat) (i : Nat) (hi : i < 6) (l : List It) (hg : ∀ x ∈ l, goodItem i x = true) (n : Int) (n0 : lowI i ≤ n) (n1 : n ≤ highI i) : DueL c n i (l.map fun x => B (itemL x)) (hasF i l n) false := by
 induction l with
 | nil => exact ⟨rfl, rfl⟩
 | cons x t ih =>
  refine ⟨hasIt i x n, false, offC_item c i hi x (hg x (by simp)) n n0 n1, ?_⟩
  have hcons : hasF i (x :: t) n = (hasIt i x n || hasF i t n) := rfl
  rw [hcons]
  cases hb : hasIt i x n with
  | true => rw [if_pos (Or.inl rfl)]; exact ⟨rfl, rfl⟩
  | false => rw [if_neg (by simp), Bool.false_or]; exact ih (fun y hy => hg y (by simp [hy]))
theorem ev_all {α β : Type} (l : List α) (F : α → Nat → Option β) (r : α → β) (h : ∀ a ∈ l, Ev (F a) (r a)) : ∃ K, ∀ k, K ≤ k → ∀ a ∈ l, F a k = some (r a) := by
 induction l with
 | nil => exact ⟨0, fun _ _ _ ha => by cases ha⟩
 | cons x t ih =>
  obtain ⟨K, hK⟩ := ih (fun a ha => h a (by simp [ha]))
  obtain ⟨L, hL⟩ := h x (by simp)
  refine ⟨max K L, fun k hk a ha => ?_⟩
  rcases List.mem_cons.1 ha with rfl | ha
  ·exact hL k (by omega)
  ·exact hK k (by omega) a ha
theorem itemL_chars (x : It) : ∀ b ∈ itemL x, b = 42 ∨ b = 45 ∨ b = 47 ∨ (48 ≤ b.toNat ∧ b.toNat ≤ 57) := by
 have hs : ∀ b ∈ stepL x.f3, b = 42 ∨ b = 45 ∨ b = 47 ∨ (48 ≤ b.toNat ∧ b.toNat ≤ 57) := by
  intro b hb
  unfold stepL at hb
  split at hb
  ·rcases List.mem_cons.1 hb with h | h
   ·exact .inr (.inr (.inl h))
   ·exact .inr (.inr (.inr (decN_digit _ b h)))
  ·cases hb
 intro b hb
 unfold itemL at hb
 split at hb
 ·rcases List.mem_cons.1 hb with h | h
  ·exact .inl h
  ·exact hs b h
 ·rcases List.mem_append.1 hb with h | h
  ·exact .inr (.inr (.inr (decN_digit _ b h)))
  ·rcases List.mem_append.1 h with h | h
   ·split at h
    ·rcases List.mem_cons.1 h with h | h
     ·exact .inr (.inl h)
     ·exact .inr (.inr (.inr (decN_digit _ b h)))
    ·cases h
   ·exact hs b h
theorem itemL_not (x : It) (c : UInt8) (h1 : c ≠ 42) (h2 : c ≠ 45) (h3 : c ≠ 47) (h4 : c.toNat < 48 ∨ 57 < c.toNat) : c ∉ itemL x := fun e => by
 rcases itemL_chars x c e with h | h | h | h
 ·exact h1 h
 ·exact h2 h
 ·exact h3 h
 ·omega
theorem segA_parts {x y mo d h mi s : Int} (M : Moment' x y mo d h mi s) (pos : Nat) (hp : pos < 7) (P : List (List UInt8)) (hne : P ≠ []) (h44 : ∀ p ∈ P, 44 ∉ p) (hl : (joinL 44 P).length < 1000000) (hn : P.length < 1000000) (hm : ∀ p ∈ P, p.length < 1000000 ∧ ∀ b ∈ p, b ≠ 76 ∧ b ≠ 87 ∧ b ≠ 35)
  (b er : Bool) (hD : ∀ c, DueL c (posV y mo d h mi s pos) pos (P.map B) b er) : SegA x (B (joinL 44 P)) pos b er := by
 have hs := zzSplit_ev 44 (joinL 44 P) (by omega)
 rw [splitL_join 44 P hne h44] at hs
 obtain ⟨K1, hK1⟩ := hs
 obtain ⟨K2, hK2⟩ := ev_all P (fun p k => gronx_zzContainsAny.f k (B p) (B [76, 87, 35])) (fun _ => false) (fun p hp => by
  have := any_ev p [76, 87, 35] (by have := (hm p hp).1; omega) (by simp)
  rw [show (p.any fun b => ([76, 87, 35] : List UInt8).contains b) = false by
   rw [List.any_eq_false]
   intro b hb
   have := (hm p hp).2 b hb
   simp [this.1, this.2.1, this.2.2]] at this
  exact this)
 refine segA_of M _ pos hp (max K1 K2) (P.map B) (hK1 _ (by omega)) (by rw [List.length_map]; exact hn) (fun _ o ho => ?_) b er hD
 obtain ⟨p, hp, rfl⟩ := List.mem_map.1 ho
 exact hK2 _ (by omega) p hp
theorem posV_range {y mo d h mi s : Int} (hd : DateOk y mo d) (hc : ClockOk h mi s) (i : Nat) (hi : i < 6) : lowI i ≤ posV y mo d h mi s i ∧ posV y mo d h mi s i ≤ highI i := by
 have h31 := (daysI_cases y mo hd.m0 hd.m1).1
 have := hd.d1
 have hw0 : 0 ≤ wdI y mo d := Int.emod_nonneg _ (by decide)
 have hw1 : wdI y mo d < 7 := Int.emod_lt_of_pos _ (by decide)
 match i, hi with
 | 0, _ => exact ⟨hc.s0, hc.s1⟩
 | 1, _ => exact ⟨hc.m0, hc.m1⟩
 | 2, _ => exact ⟨hc.h0, hc.h1⟩
 | 3, _ => exact ⟨hd.d0, by show d ≤ 31; omega⟩
 | 4, _ => exact ⟨hd.m0, hd.m1⟩
 | 5, _ => exact ⟨hw0, by show wdI y mo d ≤ 6; omega⟩
theorem items_small {i : Nat} {l : List It} (hg : goodF i l = true) : (∀ p ∈ l.map itemL, p.length < 1000000 ∧ ∀ b ∈ p, b ≠ 76 ∧ b ≠ 87 ∧ b ≠ 35) ∧ (∀ p ∈ l.map itemL, 44 ∉ p) ∧ l.map itemL ≠ [] ∧ (l.map itemL).length < 1000000 := by
 obtain ⟨h1, h2, h3⟩ := goodF_spec hg
 refine ⟨fun p hp => ?_, fun p hp => ?_, ?_, by rw [List.length_map]; omega⟩
 ·obtain ⟨x, hx, rfl⟩ := List.mem_map.1 hp
  have := itemL_length (h1 x hx)
  refine ⟨by omega, fun b hb => ⟨fun e => ?_, fun e => ?_, fun e => ?_⟩⟩ <;> subst e
  ·exact itemL_not x _ (by decide) (by decide) (by decide) (by decide) hb
  ·exact itemL_not x _ (by decide) (by decide) (by decide) (by decide) hb
  ·exact itemL_not x _ (by decide) (by decide) (by decide) (by decide) hb
 ·obtain ⟨x, hx, rfl⟩ := List.mem_map.1 hp
  exact itemL_not x 44 (by decide) (by decide) (by decide) (by decide)
 ·intro e
  have := congrArg List.length e
  simp at this
  subst this
  simp at h2
theorem segA_field {x y mo d h mi s : Int} (M : Moment' x y mo d h mi s) (i : Nat) (hi : i < 6) (l : List It) (hg : goodF i l = true) : SegA x (B (fieldL l)) i (hasF i l (posV y mo d h mi s i)) false := by
 obtain ⟨q1, q2, q3, q4⟩ := items_small hg
 have hl := fieldL_length hg
 obtain ⟨v0, v1⟩ := posV_range M.date M.clock i hi
 refine segA_parts M i (by omega) (l.map itemL) q3 q2 (by show (fieldL l).length < _; omega) q4 q1 _ false (fun c => ?_)
 rw [List.map_map]
 exact dueL_items c i hi l (goodF_spec hg).1 _ v0 v1
end Go.Proofs.YtemgofomhjabpaaGreatDoor.Core
namespace Go.Proofs.YtemgofomhjabpaaGreatDoor.Core
open Go.RowKit Go.Proofs.YtemgofomhjabpaaGreatDoorW.PrintWords Go.ChangeMaps
theorem zero_expr (w : World) : (zeroValue 91).run Tryz.prog w = .ok (.agg #[.nilIface, .string ⟨#[]⟩, .bool false]) w := by kernel_rfl
def anyR (_ : Value) : Option (DataW Unit × List MemPlace) := some (.lit (.bool false), [])
def CacheAt (w : World) (b n : Nat) (V : ByteArray → Bool) : Prop := ∃ es clock, w.heap[b]? = some (.map es clock) ∧ Go.WideElems.Fit Tryz.prog 9 anyR es clock ∧ es.size ≤ n ∧ ∀ e ∈ es.toList, ∃ s str : ByteArray, e.key = .string s ∧ e.val = .agg #[.nilIface, .string str, .bool (V s)]
theorem cache_new {w : World} {b : Nat} (h : w.heap[b]? = some (.map #[] 0)) (V : ByteArray → Bool) : CacheAt w b 0 V :=
 ⟨#[], 0, h, ⟨by simp, Go.MapKept.stamped_empty 0, by simp⟩, Nat.le_refl _, by simp⟩
theorem cache_kept {w w' : World} {b n : Nat} {V : ByteArray → Bool} (h : CacheAt w b n V) (e : w'.heap[b]? = w.heap[b]?) : CacheAt w' b n V := by
 obtain ⟨es, clock, hb, F, hs, hE⟩ := h
 exact ⟨es, clock, e.trans hb, F, hs, hE⟩
theorem cache_lt {w : World} {b n : Nat} {V : ByteArray → Bool} (h : CacheAt w b n V) : b < w.heap.size := by
 obtain ⟨es, clock, hb, _⟩ := h
 exact (Array.getElem?_eq_some_iff.1 hb).1
theorem cache_look {w : World} {b n : Nat} {V : ByteArray → Bool} (h : CacheAt w b n V) (key : ByteArray) (hk : key.size ≤ 140737488355328) :
  (Instr.lookup 110 (.map (some b)) (.string key) true).run Tryz.prog w = .ok (.tuple #[.agg #[.nilIface, .string ⟨#[]⟩, .bool false], .bool false]) w ∨
  ∃ str : ByteArray, (Instr.lookup 110 (.map (some b)) (.string key) true).run Tryz.prog w = .ok (.tuple #[.agg #[.nilIface, .string str, .bool (V key)], .bool true]) w := by
 obtain ⟨es, clock, hb, F, hs, hE⟩ := h
 have hkey : keyOf Tryz.prog 9 (.string key) = some (.string key.data.toList) := Go.WideMaps.keyOf_string_mk Tryz.underlying9 (by unfold maxLen; omega)
 rcases Go.Maps.fit_look true (Go.Maps.string_keyed Tryz.underlying9) Tryz.underlying110 (zero_expr w) hb F hkey with ⟨hrun, _, _⟩ | ⟨e0, y, hm, hk0, hrun, _⟩
 ·exact .inl hrun
 ·obtain ⟨s, str, es', ev⟩ := hE e0 hm
  rw [es'] at hk0
  obtain rfl : s = key := by injection hk0
  rw [ev] at hrun
  exact .inr ⟨str, hrun⟩
theorem cache_put {w : World} {b n : Nat} {V : ByteArray → Bool} (h : CacheAt w b n V) (hn : n < 1000000) (key str : ByteArray) (hk : key.size ≤ 140737488355328) :
  ∃ es' clock', (Instr.mapUpdate 110 (.map (some b)) (.string key) (.agg #[.nilIface, .string str, .bool (V key)])).run Tryz.prog w = .ok () (setBlock w b (.map es' clock')) ∧ CacheAt (setBlock w b (.map es' clock')) b (n + 1) V := by
 obtain ⟨es, clock, hb, F, hs, hE⟩ := h
 have hkey : keyOf Tryz.prog 9 (.string key) = some (.string key.data.toList) := Go.WideMaps.keyOf_string_mk Tryz.underlying9 (by unfold maxLen; omega)
 obtain ⟨es', clock', hrun, F', hput, _, _, hwho⟩ := Go.Maps.fit_store (R' := anyR) (Go.Maps.string_keyed Tryz.underlying9) Tryz.underlying110 hb F (by unfold maxLen; omega) (fun _ _ _ _ hz => hz) hkey (show anyR (.agg #[.nilIface, .string str, .bool (V key)]) = some _ from rfl)
 refine ⟨es', clock', hrun, es', clock', Go.ChangeMaps.heap_setBlock_same hb _, F', ?_, fun e he => ?_⟩
 ·have e1 : es'.size = ((es'.toList.map (Go.WideElems.rg Tryz.prog 9 anyR)).foldr DataW.insert []).length := by rw [length_sorted]; simp
  rw [e1, hput]
  have e2 : ((es.toList.map (Go.WideElems.rg Tryz.prog 9 anyR)).foldr DataW.insert []).length = es.size := by rw [length_sorted]; simp
  unfold putKey
  rw [length_insert]
  have e3 := List.length_filter_le (notKey (.string key.data.toList)) ((es.toList.map (Go.WideElems.rg Tryz.prog 9 anyR)).foldr DataW.insert [])
  rw [e2] at e3
  omega
 ·rcases hwho e he with ⟨hm, _⟩ | ⟨ek, ev⟩
  ·exact hE e hm
  ·exact ⟨key, str, ek, ev⟩
theorem setBlock_other {w : World} {b n : Nat} {V : ByteArray → Bool} (h : CacheAt w b n V) (o : Obj) {i : Nat} (hi : i ≠ b) : (setBlock w b o).heap[i]? = w.heap[i]? := by
 obtain ⟨es, clock, hb, _⟩ := h
 exact Go.ChangeMaps.heap_setBlock_other hb o hi
theorem setBlock_below {B : Nat} {w0 w : World} {b n : Nat} {V : ByteArray → Bool} (h : CacheAt w b n V) (hb : Below B w0 w) (hB : B ≤ b) (o : Obj) : Below B w0 (setBlock w b o) :=
 ⟨hb.os, hb.tape, hb.output, by have := hb.size; simpa [setBlock] using this, fun i hi => (setBlock_other h o (by omega)).trans (hb.block i hi)⟩
end Go.Proofs.YtemgofomhjabpaaGreatDoor.Core
namespace Go.Proofs.YtemgofomhjabpaaGreatDoor.Core
open Go.RowKit Go.Proofs.YtemgofomhjabpaaGreatDoorW.PrintWords Go.Proofs.YtemgofomhjabpaaGreatDoorW.PrintLast Go.Proofs.YtemgofomhjabpaaGreatDoorW.PrintMore
set_option linter.unusedSimpArgs false
theorem info_time : (Tryz.prog.info? 79).map (fun i => (i.zero, i.size, i.bytes)) = some (some (.agg #[.int .u64 0, .int .i64 0, .pointer none]), 3, 24) := by kernel_rfl
theorem info_expr : (Tryz.prog.info? 91).map (fun i => (i.zero, i.size, i.bytes)) = some (some (.agg #[.nilIface, .string ⟨#[]⟩, .bool false]), 3, 40) := by kernel_rfl
theorem own_one {w : World} {B R : Nat} {e : TypeId} {a b c : Value} (h : w.heap[R]? = some (.cells #[a, b, c] e (0, 0))) (hB : B ≤ R) (h1 : ∀ u ∈ [a, b, c], u.oneCell' = true) : (Kd.raw 3).R e w B (fun _ => True) (.slice (some ⟨R, 0, none⟩) 1 1) [[a, b, c]] :=
 ⟨fun _ _ => trivial, [a, b, c], ⟨rfl, .inr ⟨R, 1, #[a, b, c], rfl, hB, h, Nat.le_refl _, by decide, rfl, rfl⟩⟩, rfl, fun j p hj => by
  have hj0 : j = 0 := by
   have := (List.getElem?_eq_some_iff.1 hj).1
   simpa using this
  subst hj0
  obtain rfl : [a, b, c] = p := by simpa using hj
  exact ⟨rfl, rfl, h1⟩⟩
theorem zrow_one : ∀ u ∈ [Value.nilIface, .string ⟨#[]⟩, .bool false], u.oneCell' = true := by simp [Value.oneCell']
def bdT4 : Bool × List (List Nat × List Nat) := (true, [([], []), ([], []), ([1], [1]), ([2, 2], [2]), ([0, 0], [0]), ([3, 4, 0, 1, 2, 3, 4], [3])])
def bdB4 : List Nat := [0, 0, 2, 6, 1, 31]
theorem bd_tab4 : rtab .any (opsOf Tryz.f41 4) = bdT4 := by kernel_rfl
theorem bd_bits4 : waitsOk bdT4.2 bdB4 = true := by kernel_rfl
def keyT (segs : List ByteArray) : ByteArray := ⟨(Lib.join (segs.map (·.data.toList)) [32]).toArray⟩
def rowsAt (cs : Array Value) (exprs : List ByteArray) (r : Nat → Bool) (i : Nat) : Prop := ∀ q, q < i → cs[q * 3]? = some .nilIface ∧ cs[q * 3 + 1]? = some (.string (exprs.getD q ByteArray.empty)) ∧ cs[q * 3 + 2]? = some (.bool (r q))
structure BI (w4 : World) (Mb Bb : Nat) (exprs : List ByteArray) (V : ByteArray → Bool) (r : Nat → Bool) (i n : Nat) (cs : Array Value) (W : World) : Prop where
 below : Below w4.heap.size w4 W
 cache : CacheAt W Mb n V
 blk : W.heap[Bb]? = some (.cells cs 91 (0, 0))
 size : 3 * exprs.length ≤ cs.size
 rows : rowsAt cs exprs r i
theorem BI.set {w4 : World} {Mb Bb : Nat} {exprs : List ByteArray} {V : ByteArray → Bool} {r : Nat → Bool} {i n : Nat} {cs : Array Value} {W : World} (h : BI w4 Mb Bb exprs V r i n cs W) (hge : w4.heap.size ≤ Bb) (hMB : Mb ≠ Bb) (k : Nat) (hk : i * 3 ≤ k) (u : Value) : BI w4 Mb Bb exprs V r i n (cs.setIfInBounds k u) (W.setCell ⟨Bb, k, none⟩ u) :=
 ⟨below_set h.below hge, cache_kept h.cache (Below.heap_setCell W ⟨Bb, k, none⟩ u Mb hMB), blk_set h.blk k u, by rw [Array.size_setIfInBounds]; exact h.size, fun q hq => by
  obtain ⟨a, b, c⟩ := h.rows q hq
  rw [Array.getElem?_setIfInBounds_ne (by omega), Array.getElem?_setIfInBounds_ne (by omega), Array.getElem?_setIfInBounds_ne (by omega)]
  exact ⟨a, b, c⟩⟩
theorem BI.step {w4 : World} {Mb Bb : Nat} {exprs : List ByteArray} {V : ByteArray → Bool} {r : Nat → Bool} {i n : Nat} {cs : Array Value} {W W' : World} (h : BI w4 Mb Bb exprs V r i n cs W) (hb : Below W.heap.size W W') : BI w4 Mb Bb exprs V r i n cs W' :=
 ⟨below_step h.below hb, cache_kept h.cache (hb.block Mb (cache_lt h.cache)), blk_below h.blk hb, h.size, h.rows⟩
theorem BI.cell {w4 : World} {Mb Bb : Nat} {exprs : List ByteArray} {V : ByteArray → Bool} {r : Nat → Bool} {i n : Nat} {cs : Array Value} {W : World} (h : BI w4 Mb Bb exprs V r i n cs W) {k : Nat} {u : Value} (e : cs[k]? = some u) : W.cell? ⟨Bb, k, none⟩ = some u := (blk_cell h.blk k).trans e
theorem arr_same {cs : Array Value} {k : Nat} {u : Value} (h : k < cs.size) : (cs.setIfInBounds k u)[k]? = some u := by simp [Array.getElem?_setIfInBounds, h]
theorem segs_cells {W : World} {g n : Nat} {xs : List ByteArray} (h : Kd.C Kd.string W (some ⟨g, 0, none⟩) n xs) (hn : 0 < n) : ∀ (j : Nat) x, xs[j]? = some x → W.cell? ⟨g, 0 + j, none⟩ = some (.string x) := by
 intro j x hx
 obtain ⟨ad, e, hc⟩ := h.2.2 hn
 cases e
 obtain ⟨c, hl, hK, hcell⟩ := hc j x hx
 have h0 := hcell 0 (.string x) (by rw [show c = [.string x] from hK]; rfl)
 rw [add_plain] at h0
 simpa [Kd.string, Kd.scalar] using h0
structure BInv (w4 : World) (Mb Bb : Nat) (exprs : List ByteArray) (V : ByteArray → Bool) (r : Nat → Bool) (j : Nat) (w : World) : Prop where
 below : Below w4.heap.size w4 w
 cache : CacheAt w Mb j V
 rows : ∃ cs, w.heap[Bb]? = some (.cells cs 91 (0, 0)) ∧ 3 * exprs.length ≤ cs.size ∧ rowsAt cs exprs r j
def BatchPost (B : Nat) (exprs : List ByteArray) (r : Nat → Bool) (w : World) (e : Ending) (w' : World) : Prop := ∃ g cap, e = .returned (.slice (some ⟨g, 0, none⟩) exprs.length cap) ∧ B ≤ g ∧ (∃ cs, w'.heap[g]? = some (.cells cs 91 (0, 0)) ∧ 3 * exprs.length ≤ cs.size ∧ rowsAt cs exprs r exprs.length) ∧ Below B w w'
theorem cache_mono {w : World} {b n n' : Nat} {V : ByteArray → Bool} (h : CacheAt w b n V) (hn : n ≤ n') : CacheAt w b n' V := by
 obtain ⟨es, clock, hb, F, hs, hE⟩ := h
 exact ⟨es, clock, hb, F, Nat.le_trans hs hn, hE⟩
theorem BI.next {w4 : World} {Mb Bb : Nat} {exprs : List ByteArray} {V : ByteArray → Bool} {r : Nat → Bool} {j n : Nat} {cs : Array Value} {W : World} (h : BI w4 Mb Bb exprs V r j n cs W) (hn : n ≤ j + 1) (e0 : cs[j * 3]? = some .nilIface) (e1 : cs[j * 3 + 1]? = some (.string (exprs.getD j ByteArray.empty))) (e2 : cs[j * 3 + 2]? = some (.bool (r j))) : BInv w4 Mb Bb exprs V r (j + 1) W :=
 ⟨h.below, cache_mono h.cache hn, cs, h.blk, h.size, fun q hq => by
  by_cases e : q = j
  ·subst e; exact ⟨e0, e1, e2⟩
  ·exact h.rows q (by omega)⟩
theorem arr_set_id {cs : Array Value} {k : Nat} {u : Value} (e : cs[k]? = some u) : cs.setIfInBounds k u = cs := by
 apply Array.ext_getElem?
 intro i
 by_cases h : k = i
 ·subst h
  have hk := (Array.getElem?_eq_some_iff.1 e).1
  rw [arr_same hk, e]
 ·rw [Array.getElem?_setIfInBounds_ne h]
theorem below_same {B g k : Nat} {w W : World} {t : TypeId} {cs : Array Value} {u : Value} (h : Below B w W) (hb : W.heap[g]? = some (.cells cs t (0, 0))) (e : cs[k]? = some u) : Below B w (W.setCell ⟨g, k, none⟩ u) :=
 have h0 : Below 0 w (W.setCell ⟨g, k, none⟩ u) := (h.mono (Nat.zero_le _)).setCell (Nat.zero_le _) u
 ⟨h0.os, h0.tape, h0.output, h0.size, fun i hi => by
  by_cases ig : i = g
  ·subst ig
   rw [blk_set hb k u, arr_set_id e, ← hb]
   exact h.block _ hi
  ·exact (Below.heap_setCell W ⟨g, k, none⟩ u i ig).trans (h.block i hi)⟩
set_option maxRecDepth 100000 in
set_option maxHeartbeats 8000000 in
theorem batchDue_w (B G C R : Nat) (x : Int) (exprs : List ByteArray) (hn : 0 < exprs.length) (hn9 : exprs.length ≤ 9) (V : ByteArray → Bool) (sg : Nat → List ByteArray) (hS : Aside0 (∀ i, i < exprs.length → (∃ k, gronx_Segments.f k (exprs.getD i ByteArray.empty) = some (sg i, none)) ∧ 0 < (sg i).length ∧ (sg i).length ≤ 7 ∧ (Lib.join ((sg i).map (·.data.toList)) [32]).length ≤ 140737488355328 ∧ DueF x 0 (sg i) (V (keyT (sg i))))) (w : World) (A : Option Addr) (cc : Nat) (v0 v1 v2 : Value)
  (hg : w.cell? ⟨G, 0, none⟩ = some (.iface 92 (.pointer (some ⟨C, 0, none⟩)))) (h0 : w.cell? ⟨C, 0, none⟩ = some v0) (h1 : w.cell? ⟨C, 1, none⟩ = some v1) (h2 : w.cell? ⟨C, 2, none⟩ = some v2) (f0 : w.frozen? ⟨C, 0, none⟩ = false) (f1 : w.frozen? ⟨C, 1, none⟩ = false) (f2 : w.frozen? ⟨C, 2, none⟩ = false)
  (hR : w.heap[R]? = some (.cells #[.int .u64 0, .int .i64 x, .pointer none] 79 (0, 0))) (hB : B ≤ C) (hBR : B ≤ R) (hCG : C ≠ G) (hRG : R ≠ G) (hCR : C ≠ R) (hA : Aside0 (∀ W : World, Below B w W → Kd.C Kd.string W A exprs.length exprs)) (_ : exprs.length ≤ cc) :
  Calls Tryz.prog 41 #[.pointer (some ⟨G, 0, none⟩), .slice A exprs.length cc, .slice (some ⟨R, 0, none⟩) 1 1] w (BatchPost B exprs (fun q => V (keyT (sg q))) w) := by
 have hm1 := nil_setRef
 have hm2 := m_setRef
 have HO := Aside0.mk (own_one hR hBR (by simp [Value.oneCell']))
 have hBw : B ≤ w.heap.size := Nat.le_trans hB (Nat.le_of_lt (World.block_lt_of_cell? w ⟨C, 0, none⟩ h0))
 go_enter Tryz.func41, Tryz.ntmps41
 go_wp2_with (first | ((with_reducible refine gate_builtin (b := .append) (xs := #[.tmp 17, .tmp 19]) rfl ?_); at_builtin; refine Kd.R_append (Kd.raw 3) (w0 := w) B rfl (.tmp 17) (.tmp 19) 99 79 _ 24 rfl Tryz.underlying99 info_time rfl (by decide) (by omega) (.slice (some ⟨R, 0, none⟩) 1 1) [[.int .u64 0, .int .i64 x, .pointer none]] [.int .u64 0, .int .i64 0, .pointer none] [.int .u64 0, .int .i64 0, .pointer none] (fun _ => True) (fun _ => False) rfl rfl ⟨rfl, rfl, by simp [Value.oneCell']⟩ (fun _ hk => hk.elim) (fun _ _ => trivial) HO.out (Below.refl _ _) hBw (by simp) ?_; intro u1 w1 ho hb1 hg1 hat1))
 obtain ⟨g1, cap1, e1, hgB, hgs, cs1, hcs1⟩ := Kd.R_form ho (by simp)
 subst e1
 obtain ⟨ce, hcl, hM, hce, hfr⟩ := Kd.R_elem ho [] 0 (by decide) (by simp)
 obtain rfl : ce = [.int .u64 0, .int .i64 x, .pointer none] := hM.1
 have r0 : w1.cell? ⟨g1, 0, none⟩ = some (.int .u64 0) := hce 0 _ rfl
 have r1 : w1.cell? ⟨g1, 1, none⟩ = some (.int .i64 x) := hce 1 _ rfl
 have r2 : w1.cell? ⟨g1, 2, none⟩ = some (.pointer none) := hce 2 _ rfl
 have hCg : C ≠ g1 := by
  rcases hat1 with e | ⟨b, e, hb⟩
  ·simp [Value.ownBlock] at e; omega
  ·simp [Value.ownBlock] at e
   have := World.block_lt_of_cell? w ⟨C, 0, none⟩ h0
   have : C < w.heap.size := this
   omega
 have kG := hg1.block G (World.block_lt_of_cell? w ⟨G, 0, none⟩ hg) (by simp [Value.ownBlock]; omega)
 have kC := hg1.block C (World.block_lt_of_cell? w ⟨C, 0, none⟩ h0) (by simp [Value.ownBlock]; omega)
 replace hg : w1.cell? ⟨G, 0, none⟩ = some (.iface 92 (.pointer (some ⟨C, 0, none⟩))) := by rw [← hg]; simp only [World.cell?, kG]
 replace h0 : w1.cell? ⟨C, 0, none⟩ = some v0 := by rw [← h0]; simp only [World.cell?, kC]
 replace h1 : w1.cell? ⟨C, 1, none⟩ = some v1 := by rw [← h1]; simp only [World.cell?, kC]
 replace h2 : w1.cell? ⟨C, 2, none⟩ = some v2 := by rw [← h2]; simp only [World.cell?, kC]
 replace f0 : w1.frozen? ⟨C, 0, none⟩ = false := by rw [← f0]; simp only [World.frozen?, kC]
 replace f1 : w1.frozen? ⟨C, 1, none⟩ = false := by rw [← f1]; simp only [World.frozen?, kC]
 replace f2 : w1.frozen? ⟨C, 2, none⟩ = false := by rw [← f2]; simp only [World.frozen?, kC]
 have hb1 := Aside0.mk hb1
 clear kG kC hat1 hg1 hce hfr hM hcl hcs1 ho HO hR hRG
 go_region_held (fun w' => w'.cell? ⟨G, 0, none⟩ = some (.iface 92 (.pointer (some ⟨C, 0, none⟩))) ∧ w'.cell? ⟨g1, 0, none⟩ = some (.int .u64 0) ∧ w'.cell? ⟨g1, 1, none⟩ = some (.int .i64 x) ∧ w'.cell? ⟨g1, 2, none⟩ = some (.pointer none))
  (first | exact SD.set hCG hCg (SD.set hCG hCg (SD.set hCG hCg (SD.alloc _ (by assumption)))) | go_keep) (first | (go_at_call 113; refine (setRef_w C x w1.drew v0 v1 v2 h0 h1 h2 f0 f1 f2).mono ?_; rintro e w2 ⟨rfl, rfl⟩))
 rename_i hHeld
 clear hHeld
 obtain ⟨hG, c0, c1, c2, HB, hz⟩ := set_alloc (x := x) hg h0 h1 h2 hCG hB
 have HB := Aside0.mk (hb1.out.trans HB)
 have hG := Aside0.mk hG
 have c0 := Aside0.mk c0
 have c1 := Aside0.mk c1
 have c2 := Aside0.mk c2
 have hz := Aside0.mk hz
 clear hg h0 h1 h2 f0 f1 f2 r0 r1 r2 hb1 hgs cs1
 generalize ((((w1.alloc (.cells #[.int .u64 0, .int .i64 x, .pointer none] 79)).setCell ⟨C, 0, none⟩ (.int .u64 0)).setCell ⟨C, 1, none⟩ (.int .i64 x)).setCell ⟨C, 2, none⟩ (.pointer none)).drew = w3 at HB hG c0 c1 c2 hz ⊢
 have hmm := @run_makeMap Tryz.prog
 go_wp2
 have HB4 := Aside0.mk (below_drew HB.out)
 have hG4 := Aside0.mk (show w3.drew.cell? ⟨G, 0, none⟩ = _ from hG.out)
 have c04 := Aside0.mk (show w3.drew.cell? ⟨C, 0, none⟩ = _ from c0.out)
 have c14 := Aside0.mk (show w3.drew.cell? ⟨C, 1, none⟩ = _ from c1.out)
 have c24 := Aside0.mk (show w3.drew.cell? ⟨C, 2, none⟩ = _ from c2.out)
 have hz4 := Aside0.mk (show B ≤ w3.drew.heap.size from hz.out)
 clear HB hG c0 c1 c2 hz
 refine start_ (n := 6) (S := fun _ => True) (ds := []) (Ya 6 0) (by kernel_rfl) rfl rfl trivial (fun hHeld => ?_); refine with_tabW bd_tab4 bd_bits4 (fun HT_ HW_ => ?_)
 generalize w3.drew = w4 at HB4 hG4 c04 c14 c24 hz4 hHeld ⊢
 refine pure_ (i := 1) (N := some 32) (v := ?_) (a' := ?_) (Ya 6 2) rfl rfl (any_of HT_.out (by kernel_rfl)) (fun _ _ _ h => h) (Or.inl ⟨by rfl, ?_⟩) ?_ ?_
 rotate_left
 ·intro w'
  go_simp
  with_reducible rfl
 rotate_left
 ·simp only [Act.put, List.setIfInBounds_toArray, List.set_cons_zero, List.set_cons_succ, i64_w, i32_w]
  rfl
 refine pure_ (i := 2) (N := some 33) (v := ?_) (a' := ?_) (Ya 6 6) rfl rfl (any_of HT_.out (by kernel_rfl)) (fun _ _ _ h => h) (Or.inl ⟨by rfl, ?_⟩) ?_ ?_
 rotate_left
 ·intro w'
  go_simp
  with_reducible rfl
 rotate_left
 ·simp only [Act.put, List.setIfInBounds_toArray, List.set_cons_zero, List.set_cons_succ, i64_w, i32_w]
  rfl
 refine join_ (σ := Value × Nat) 1 (Ya 6 31) (fun s_ => [(31, .map (some s_.2)), (8, .map (some s_.2)), (34, s_.1)]) (fun s_ w' => (Kd.raw 3).R 91 w' w4.heap.size (fun _ => True) s_.1 (List.replicate (exprs.length : Int).toNat [.nilIface, .string ⟨#[]⟩, .bool false]) ∧ w'.heap[s_.2]? = some (.map #[] 0) ∧ w4.heap.size ≤ s_.2 ∧ Below w4.heap.size w4 w') ?_ ?_
 rotate_left
 ·intro hCont
  refine two_ (i := 0) (j := 3) (Ni := some 31) (Nj := some 34) (Ya 6 7) (Ya 6 14) rfl rfl rfl rfl (two_of HT_.out (by kernel_rfl)) (by decide) (by decide) (fun K hK => ?_) (fun K hK => ?_)
  ·refine value_ (w1 := w4.alloc (.map #[] 0)) (v := .map (some w4.heap.size)) (by rfl) rfl ?_ ?_
   ·go_simp
   refine hK.out _ _ trivial (fun hHeld => ?_)
   clear hK K
   refine norm_ (a' := ?_) ?_ ?_
   rotate_left
   ·show Act.put _ (some 31) _ = _
    simp only [Act.put, List.setIfInBounds_toArray, List.set_cons_zero, List.set_cons_succ, i64_w, i32_w]
    rfl
   refine pure_ (i := 4) (N := some 8) (v := ?_) (a' := ?_) (Ya 6 23) rfl rfl (any_of HT_.out (by kernel_rfl)) (fun _ _ _ h => h) (Or.inl ⟨by rfl, ?_⟩) ?_ ?_
   rotate_left
   ·intro w'
    go_simp
    with_reducible rfl
   rotate_left
   ·simp only [Act.put, List.setIfInBounds_toArray, List.set_cons_zero, List.set_cons_succ, i64_w, i32_w]
    rfl
   refine one_ (i := 3) (N := some 34) (Ya 6 31) rfl rfl (one_of HT_.out (by kernel_rfl)) (by decide) (fun K hK => ?_)
   refine Kd.R_make_step (Kd.raw 3) (w0 := w4) w4.heap.size 91 (by rfl) (N := 34) rfl 88 (.tmp 33) (.tmp 33) rfl (exprs.length : Int) rfl rfl Tryz.underlying88 (.agg #[.nilIface, .string ⟨#[]⟩, .bool false]) 40 info_expr rfl (by decide) (by omega) [.nilIface, .string ⟨#[]⟩, .bool false] (ok := fun _ => True) (okp := fun _ => False) ⟨rfl, rfl, zrow_one⟩ (fun _ hk => hk.elim) trivial (by omega) (by simp; omega) (below_alloc (Below.refl _ _) _) (by simp) ?_
   intro v34 w5 ho5 hb5 hg5 hat5
   refine hK.out _ _ trivial (fun hHeld => ?_)
   clear hK K
   refine norm_ (a' := ?_) ?_ ?_
   rotate_left
   ·show Act.put _ (some 34) _ = _
    simp only [Act.put, List.setIfInBounds_toArray, List.set_cons_zero, List.set_cons_succ, i64_w, i32_w]
    rfl
   exact norm_ (by simp only [putAll, Act.put, List.setIfInBounds_toArray, List.set_cons_zero, List.set_cons_succ]) (hCont (v34, w4.heap.size) _ ⟨ho5, (blk_grown (blk_new w4 _) hg5 (by simp)), (Nat.le_refl _), hb5⟩)
  ·refine Kd.R_make_step (Kd.raw 3) (w0 := w4) w4.heap.size 91 (by rfl) (N := 34) rfl 88 (.tmp 33) (.tmp 33) rfl (exprs.length : Int) rfl rfl Tryz.underlying88 (.agg #[.nilIface, .string ⟨#[]⟩, .bool false]) 40 info_expr rfl (by decide) (by omega) [.nilIface, .string ⟨#[]⟩, .bool false] (ok := fun _ => True) (okp := fun _ => False) ⟨rfl, rfl, zrow_one⟩ (fun _ hk => hk.elim) trivial (by omega) (by simp; omega) (Below.refl _ _) (Nat.le_refl _) ?_
   intro v34 w5 ho5 hb5 hg5 hat5
   refine hK.out _ _ trivial (fun hHeld => ?_)
   clear hK K
   refine norm_ (a' := ?_) ?_ ?_
   rotate_left
   ·show Act.put _ (some 34) _ = _
    simp only [Act.put, List.setIfInBounds_toArray, List.set_cons_zero, List.set_cons_succ, i64_w, i32_w]
    rfl
   refine one_ (i := 0) (N := some 31) (Ya 6 15) rfl rfl (one_of HT_.out (by kernel_rfl)) (by decide) (fun K hK => ?_)
   refine value_ (w1 := w5.alloc (.map #[] 0)) (v := .map (some w5.heap.size)) (by rfl) rfl ?_ ?_
   ·go_simp
   refine hK.out _ _ trivial (fun hHeld => ?_)
   clear hK K
   refine norm_ (a' := ?_) ?_ ?_
   rotate_left
   ·show Act.put _ (some 31) _ = _
    simp only [Act.put, List.setIfInBounds_toArray, List.set_cons_zero, List.set_cons_succ, i64_w, i32_w]
    rfl
   refine pure_ (i := 4) (N := some 8) (v := ?_) (a' := ?_) (Ya 6 31) rfl rfl (any_of HT_.out (by kernel_rfl)) (fun _ _ _ h => h) (Or.inl ⟨by rfl, ?_⟩) ?_ ?_
   rotate_left
   ·intro w'
    go_simp
    with_reducible rfl
   rotate_left
   ·simp only [Act.put, List.setIfInBounds_toArray, List.set_cons_zero, List.set_cons_succ, i64_w, i32_w]
    rfl
   exact norm_ (by simp only [putAll, Act.put, List.setIfInBounds_toArray, List.set_cons_zero, List.set_cons_succ]) (hCont (v34, w5.heap.size) _ ⟨(Kd.R_alloc ho5 _), (blk_new w5 _), hb5.size, (below_alloc hb5 _)⟩)
 rintro ⟨v34, Mb⟩ w5 ⟨hR5, hM5, hge5, hb5⟩
 have hR5 : (Kd.raw 3).R 91 w5 w4.heap.size (fun _ => True) v34 (List.replicate (exprs.length : Int).toNat [.nilIface, .string ⟨#[]⟩, .bool false]) := hR5
 have hM5 : w5.heap[Mb]? = some (.map #[] 0) := hM5
 have hge5 : w4.heap.size ≤ Mb := hge5
 obtain ⟨_, cells5, ⟨hlen5, hown5⟩, _⟩ := hR5
 rw [List.length_replicate, Int.toNat_natCast] at hown5
 rcases hown5 with ⟨_, h0⟩ | ⟨Bb, cap5, cur5, e5, hgeB, hcells5, hcap5, hmax5, hsz5, _⟩
 ·exact absurd h0 (by omega)
 subst e5
 refine norm_ (a' := ?_) ?_ ?_
 rotate_left
 ·simp only [putAll, Act.put, List.setIfInBounds_toArray, List.set_cons_zero, List.set_cons_succ]
  rfl
 refine pure_ (i := 5) (N := some 9) (v := ?_) (a' := ?_) (Ya 6 63) rfl rfl (any_of HT_.out (by kernel_rfl)) (fun _ _ _ h => h) (Or.inl ⟨by rfl, ?_⟩) ?_ ?_
 rotate_left
 ·intro w'
  go_simp
  with_reducible rfl
 rotate_left
 ·simp only [Act.put, List.setIfInBounds_toArray, List.set_cons_zero, List.set_cons_succ, i64_w, i32_w]
  rfl
 refine done_ (done_of HT_.out (by kernel_rfl)) ?_
 have hMB : Aside0 (Mb ≠ Bb) := ⟨fun e => by rw [e, hcells5] at hM5; cases hM5⟩
 have hsz5 : cur5.size = cap5 * 3 := hsz5
 go_wp2
 have HJ0 : BInv w4 Mb Bb exprs V (fun q => V (keyT (sg q))) 0 w5 := ⟨hb5, cache_new hM5 V, cur5, hcells5, by omega, fun q hq => absurd hq (Nat.not_lt_zero _)⟩
 have HJ0 := Aside0.mk HJ0
 clear hM5 hb5 hcells5 hsz5
 have hm3 := nil_check
 have hm4 := m_check
 clear hm1 hm2 hmm
 go_loopg [37] exprs.length (fun kq v37 w' => ∃ j : Nat, v37 = .int .i64 (j : Int) ∧ Aside0 (kq + j = exprs.length) ∧ Aside0 (BInv w4 Mb Bb exprs V (fun q => V (keyT (sg q))) j w'))
 case atStart => exact ⟨0, rfl, ⟨rfl⟩, HJ0⟩
 case round =>
  clear HJ0
  obtain ⟨j, rfl, HK, HJ⟩ := hrel
  by_cases hj : j < exprs.length
  ·have qj : ((j : Int) < (exprs.length : Int)) := by omega
   have p0 : 0 ≤ (j : Int) := by omega
   have hW4 := HJ.out.below
   obtain ⟨cs, hcs, hsz, hrows⟩ := HJ.out.rows
   have hBI : BI w4 Mb Bb exprs V (fun q => V (keyT (sg q))) j j cs wr := ⟨hW4, HJ.out.cache, hcs, hsz, hrows⟩
   have hin : Aside0 (∀ W : World, Below w4.heap.size w4 W → Kd.C Kd.string W A exprs.length exprs) := ⟨fun W hW => hA.out W (HB4.out.trans (hW.mono hz4.out))⟩
   obtain ⟨⟨kS, hSeg⟩, h0s, h7s, hjl, hDF⟩ := hS.out j hj
   have hSeg := Aside0.mk hSeg
   have hDF := Aside0.mk hDF
   have hjl := Aside0.mk hjl
   obtain ⟨adx, rfl, hx0⟩ := Kd.at_string (hin.out wr hW4) (j : Int) p0 qj
   rw [Int.toNat_natCast, show rdOf ByteArray.empty exprs (j : Int) = exprs.getD j ByteArray.empty from by simp [rdOf]] at hx0
   obtain ⟨ej, hej⟩ : ∃ e, exprs.getD j ByteArray.empty = e := ⟨_, rfl⟩
   rw [hej] at hx0 hSeg
   have hej := Aside0.mk hej
   have hx4 : w4.cell? (adx.add j) = some (.string ej) := by
    obtain ⟨ad2, e2, hx2⟩ := Kd.at_string (hin.out w4 (Below.refl _ _)) (j : Int) p0 qj
    cases e2
    rw [Int.toNat_natCast, show rdOf ByteArray.empty exprs (j : Int) = exprs.getD j ByteArray.empty from by simp [rdOf], hej.out] at hx2
    exact hx2
   have hneB : (adx.add j).block ≠ Bb := by have := World.block_lt_of_cell? w4 _ hx4; omega
   have hx4 := Aside0.mk hx4
   have s0 : j * 3 < cs.size := by omega
   have s1 : j * 3 + 1 < cs.size := by omega
   have s2 : j * 3 + 2 < cs.size := by omega
   obtain ⟨z1, hz1⟩ : ∃ z, cs[j * 3 + 1]? = some z := ⟨_, Array.getElem?_eq_getElem s1⟩
   have y1 : wr.cell? ⟨Bb, j * 3 + 1, none⟩ = some z1 := BI.cell hBI hz1
   have fz1 := blk_frozen hcs (j * 3 + 1)
   have hBI := Aside0.mk hBI
   clear hcs hW4 hrows hz1 HJ
   go_upto_region 9 with (fail)
   (try simp only [Act.put, List.setIfInBounds_toArray, List.set_cons_zero, List.set_cons_succ])
   have hBA := Aside0.mk (BI.set hBI.out hgeB hMB.out (j * 3 + 1) (by omega) (.string ej))
   have s0A : j * 3 < (cs.setIfInBounds (j * 3 + 1) (.string ej)).size := by rw [Array.size_setIfInBounds]; exact s0
   have s1A : j * 3 + 1 < (cs.setIfInBounds (j * 3 + 1) (.string ej)).size := by rw [Array.size_setIfInBounds]; exact s1
   have s2A : j * 3 + 2 < (cs.setIfInBounds (j * 3 + 1) (.string ej)).size := by rw [Array.size_setIfInBounds]; exact s2
   have e1A := Aside0.mk (arr_same (u := .string ej) s1)
   clear y1 fz1 hx0 hBI s0 s1 s2
   generalize cs.setIfInBounds (j * 3 + 1) (.string ej) = csA at hBA s0A s1A s2A e1A
   generalize wr.setCell ⟨Bb, j * 3 + 1, none⟩ (.string ej) = wA at hBA ⊢
   clear z1
   have xA : wA.cell? (adx.add j) = some (.string ej) := cell_after hBA.out.below hx4.out
   go_upto_region 10 with (go_at_call 39; refine (gronx_Segments.calls kS ej (sg j) none _ hSeg.out).mono ?_; rintro e w2 ⟨vs, rfl, hR2, hb2⟩; obtain ⟨g2, c2, rfl, hg2, hg2s, cs2, hcs2⟩ := Kd.R_form hR2 h0s; rw [errW_none]; have hB2 := Aside0.mk (BI.step hBA.out hb2); obtain ⟨z0, hz0⟩ : ∃ z, csA[j * 3]? = some z := ⟨_, Array.getElem?_eq_getElem s0A⟩; have y0 : w2.cell? ⟨Bb, j * 3, none⟩ = some z0 := BI.cell hB2.out hz0; have fz0 := blk_frozen hB2.out.blk (j * 3))
   (try simp only [Act.put, List.setIfInBounds_toArray, List.set_cons_zero, List.set_cons_succ])
   have hBB := Aside0.mk (BI.set hB2.out hgeB hMB.out (j * 3) (Nat.le_refl _) .nilIface)
   have s0B : j * 3 < (csA.setIfInBounds (j * 3) .nilIface).size := by rw [Array.size_setIfInBounds]; exact s0A
   have s2B : j * 3 + 2 < (csA.setIfInBounds (j * 3) .nilIface).size := by rw [Array.size_setIfInBounds]; exact s2A
   have s1B : j * 3 + 1 < (csA.setIfInBounds (j * 3) .nilIface).size := by rw [Array.size_setIfInBounds]; exact s1A
   have e0B := Aside0.mk (arr_same (u := .nilIface) s0A)
   have e1B : Aside0 ((csA.setIfInBounds (j * 3) .nilIface)[j * 3 + 1]? = some (.string ej)) := ⟨by rw [Array.getElem?_setIfInBounds_ne (by omega)]; exact e1A.out⟩
   have hgB2 : g2 ≠ Bb := by have := blk_lt hBA.out.blk; omega
   have hsB : Aside0 (∀ (q : Nat) s, (sg j)[q]? = some s → (w2.setCell ⟨Bb, j * 3, none⟩ .nilIface).cell? ⟨g2, 0 + q, none⟩ = some (.string s)) := ⟨fun q s hq => (cell_far (p := ⟨Bb, j * 3, none⟩) hgB2 _).trans (segs_cells (Kd.R_reads' hR2).2.2 h0s q s hq)⟩
   have hg2s : g2 < (w2.setCell ⟨Bb, j * 3, none⟩ .nilIface).heap.size := by simpa using hg2s
   have hc2 := (Kd.R_reads' hR2).2.1
   clear hR2 hb2 hcs2 hB2 y0 fz0 s0A s1A s2A e1A hBA xA hg2
   generalize csA.setIfInBounds (j * 3) .nilIface = csB at hBB s0B s1B s2B e0B e1B
   generalize w2.setCell ⟨Bb, j * 3, none⟩ .nilIface = wB at hBB hsB hg2s ⊢
   clear csA z0 hz0 hneB
   have hkl : (keyT (sg j)).size ≤ 140737488355328 := by have := hjl.out; simpa [keyT, ByteArray.size] using this
   have hJoin : Aside0 (Calls Tryz.prog 49 #[.slice (some ⟨g2, 0, none⟩) (sg j).length c2, .string ⟨#[32]⟩] wB fun e w' => e = .returned (.string (keyT (sg j))) ∧ Below wB.heap.size wB w') := ⟨Tryz.strings_Join g2 0 c2 (sg j) ⟨#[32]⟩ wB hsB.out hg2s (by omega) hc2 hjl.out⟩
   obtain ⟨key, hkey⟩ : ∃ k, keyT (sg j) = k := ⟨_, rfl⟩
   rw [hkey] at hkl hJoin hDF
   have hkey := Aside0.mk hkey
   clear hjl hSeg
   go_upto_region 13 with (go_at_call 49; refine hJoin.out.mono ?_; rintro e wC ⟨rfl, hbC⟩; have hBC := Aside0.mk (BI.step hBB.out hbC); have yC : wC.cell? ⟨Bb, j * 3, none⟩ = some .nilIface := BI.cell hBC.out e0B.out)
   (try simp only [Act.put, List.setIfInBounds_toArray, List.set_cons_zero, List.set_cons_succ])
   obtain ⟨z2, hz2⟩ : ∃ z, csB[j * 3 + 2]? = some z := ⟨_, Array.getElem?_eq_getElem s2B⟩
   have y1 : wC.cell? ⟨Bb, j * 3 + 1, none⟩ = some (.string ej) := BI.cell hBC.out e1B.out
   have y2 : wC.cell? ⟨Bb, j * 3 + 2, none⟩ = some z2 := BI.cell hBC.out hz2
   have f0 := blk_frozen hBC.out.blk (j * 3)
   have f1 := blk_frozen hBC.out.blk (j * 3 + 1)
   have f2 := blk_frozen hBC.out.blk (j * 3 + 2)
   have xC : wC.cell? (adx.add j) = some (.string ej) := cell_after hBC.out.below hx4.out
   have hlx : (adx.add j).block < w4.heap.size := World.block_lt_of_cell? w4 _ hx4.out
   have hneB : (adx.add j).block ≠ Bb := by omega
   have hltB : Bb < wC.heap.size := blk_lt hBC.out.blk
   have hneC : Bb ≠ wC.heap.size := Nat.ne_of_lt hltB
   have hneX : (adx.add j).block ≠ wC.heap.size := by omega
   rcases cache_look hBC.out.cache key hkl with hrun | ⟨str, hrun⟩
   ·go_upto_region 17 with (fail)
    (try simp only [Act.put, List.setIfInBounds_toArray, List.set_cons_zero, List.set_cons_succ])
    have hBD := Aside0.mk (BI.step hBC.out (below_alloc (Below.refl _ _) (.cells #[.nilIface, .string ⟨#[]⟩, .bool false] 91)))
    have hsD : Aside0 (∀ (q : Nat) s, (sg j)[q]? = some s → (wC.alloc (.cells #[.nilIface, .string ⟨#[]⟩, .bool false] 91)).cell? ⟨g2, 0 + q, none⟩ = some (.string s)) := ⟨fun q s hq => cell_after (below_alloc (Below.refl _ _) _) (cell_after hbC (hsB.out q s hq))⟩
    clear hrun y1 y2 f0 f1 f2 xC hneC hneX hltB hBC yC hsB hbC
    generalize wC.alloc (.cells #[.nilIface, .string ⟨#[]⟩, .bool false] 91) = wD at hBD hsD ⊢
    go_upto_block 2 with (fail)
    (try simp only [Act.put, List.setIfInBounds_toArray, List.set_cons_zero, List.set_cons_succ])
    go_cut [14] (fun v14 wc => v14 = .bool (V key) ∧ Aside0 (Below wD.heap.size wD wc))
    case first =>
     go_wp2
     go_loopg [14, 95] (sg j).length (fun kq v14 v95 w' => ∃ q : Nat, v14 = .bool true ∧ v95 = .int .i64 (q : Int) ∧ Aside0 (DueF x q ((sg j).drop q) (V key)) ∧ Aside0 (kq + q = (sg j).length) ∧ Aside0 (Below wD.heap.size wD w'))
     case atStart => exact ⟨0, rfl, rfl, hDF, ⟨rfl⟩, ⟨Below.refl _ _⟩⟩
     case round =>
      obtain ⟨q, rfl, rfl, HD, HQ, HW⟩ := hrel
      by_cases hq : q < (sg j).length
      ·have qq : ((q : Int) < ((sg j).length : Int)) := by omega
       have qp : 0 ≤ (q : Int) := by omega
       have hD' := HD.out
       rw [List.drop_eq_getElem_cons hq] at hD'
       have hxq : wr.cell? ⟨g2, q, none⟩ = some (.string (sg j)[q]) := by
        have hh := hsD.out q _ (List.getElem?_eq_getElem hq)
        rw [Nat.zero_add] at hh
        exact cell_after HW.out hh
       rcases hD' with ⟨hst, hr⟩ | ⟨n42, n63, b, hA1, hif⟩
       ·have hr := Aside0.mk hr
        rcases hst with hst | hst
        ·rw [hst] at hxq
         clear hst
         go_wp2
         go_roundg (gk - 1)
         case measure => have := HQ.out; omega
         case rel => exact ⟨q + 1, rfl, by simp, hr, ⟨by have := HQ.out; omega⟩, HW⟩
        ·rw [hst] at hxq
         clear hst
         go_wp2
         go_roundg (gk - 1)
         case measure => have := HQ.out; omega
         case rel => exact ⟨q + 1, rfl, by simp, hr, ⟨by have := HQ.out; omega⟩, HW⟩
       ·have hA1 := Aside0.mk hA1
        have gG := cell_after HW.out (cell_after hBD.out.below hG4.out)
        have gc0 := Aside0.mk (cell_after HW.out (cell_after hBD.out.below c04.out))
        have gc1 := Aside0.mk (cell_after HW.out (cell_after hBD.out.below c14.out))
        have gc2 := Aside0.mk (cell_after HW.out (cell_after hBD.out.below c24.out))
        have t1 : (sg j)[q].toList ≠ ([42] : List UInt8) := by have := toList_ne n42; rwa [Lib.toList_data (⟨#[42]⟩ : ByteArray)] at this
        have t2 : ((sg j)[q].toList == ([42] : List UInt8)) = false := beq_eq_false_iff_ne.mpr t1
        have t3 : ((sg j)[q].toList == ([63] : List UInt8)) = false := beq_eq_false_iff_ne.mpr (by have := toList_ne n63; rwa [Lib.toList_data (⟨#[63]⟩ : ByteArray)] at this)
        have t4 : ((sg j)[q].toList != ([42] : List UInt8)) = true := by simp [bne, t2]
        have t5 : ((sg j)[q].toList != ([63] : List UInt8)) = true := by simp [bne, t3]
        clear n42 n63 HD
        generalize (sg j)[q] = sq at hxq hA1 t1 t2 t3 t4 t5
        cases b with
        | true =>
         have hr := Aside0.mk (show DueF x (q + 1) ((sg j).drop (q + 1)) (V key) by simpa using hif)
         clear hif
         go_wp2_with (go_at_call 111; refine (hA1.out C _ (cell_after (by repeat (first | exact Below.refl _ _ | apply below_drew1 | apply pw_below_drewN)) gc0.out) (cell_after (by repeat (first | exact Below.refl _ _ | apply below_drew1 | apply pw_below_drewN)) gc1.out) (cell_after (by repeat (first | exact Below.refl _ _ | apply below_drew1 | apply pw_below_drewN)) gc2.out)).mono ?_; rintro e w5 ⟨ev, rfl, hev, hb5⟩; obtain rfl := ErrV.nil hev; have hBX := Aside0.mk (BI.step (BI.step hBD.out HW.out) (below_step (by repeat (first | exact Below.refl _ _ | apply below_drew1 | apply pw_below_drewN)) hb5)); have yX : w5.cell? ⟨Bb, j * 3, none⟩ = some .nilIface := BI.cell hBX.out e0B.out; have fX := blk_frozen hBX.out.blk (j * 3))
         have hWX := Aside0.mk (below_same (below_step HW.out (below_step (by repeat (first | exact Below.refl _ _ | apply below_drew1 | apply pw_below_drewN)) hb5)) hBX.out.blk e0B.out)
         go_roundg (gk - 1)
         case measure => have := HQ.out; omega
         case rel => exact ⟨q + 1, rfl, by simp, hr, ⟨by have := HQ.out; omega⟩, hWX⟩
        | false =>
         have hV : V key = false := by simpa using hif
         clear hif
         go_wp2_with (go_at_call 111; refine (hA1.out C _ (cell_after (by repeat (first | exact Below.refl _ _ | apply below_drew1 | apply pw_below_drewN)) gc0.out) (cell_after (by repeat (first | exact Below.refl _ _ | apply below_drew1 | apply pw_below_drewN)) gc1.out) (cell_after (by repeat (first | exact Below.refl _ _ | apply below_drew1 | apply pw_below_drewN)) gc2.out)).mono ?_; rintro e w5 ⟨ev, rfl, hev, hb5⟩; obtain rfl := ErrV.nil hev; have hBX := Aside0.mk (BI.step (BI.step hBD.out HW.out) (below_step (by repeat (first | exact Below.refl _ _ | apply below_drew1 | apply pw_below_drewN)) hb5)); have yX : w5.cell? ⟨Bb, j * 3, none⟩ = some .nilIface := BI.cell hBX.out e0B.out; have fX := blk_frozen hBX.out.blk (j * 3))
         have hWX := Aside0.mk (below_same (below_step HW.out (below_step (by repeat (first | exact Below.refl _ _ | apply below_drew1 | apply pw_below_drewN)) hb5)) hBX.out.blk e0B.out)
         go_meet
         case rel => exact ⟨by rw [hV], hWX⟩
      ·have qq : ¬ ((q : Int) < ((sg j).length : Int)) := by omega
       have hV : V key = true := by have h := HD.out; rw [List.drop_eq_nil_of_le (by omega)] at h; exact h
       go_wp2
       go_meet
       case rel => exact ⟨by rw [hV], HW⟩
    case rest =>
     obtain ⟨rfl, HC⟩ := hcut
     have hBE := Aside0.mk (BI.step hBD.out HC.out)
     have y2 : wc.cell? ⟨Bb, j * 3 + 2, none⟩ = some z2 := BI.cell hBE.out hz2
     have f2 := blk_frozen hBE.out.blk (j * 3 + 2)
     go_upto_region 26 with (fail)
     (try simp only [Act.put, List.setIfInBounds_toArray, List.set_cons_zero, List.set_cons_succ])
     have hBF := Aside0.mk (BI.set hBE.out hgeB hMB.out (j * 3 + 2) (by omega) (.bool (V key)))
     have g0 : (csB.setIfInBounds (j * 3 + 2) (.bool (V key)))[j * 3]? = some .nilIface := by rw [Array.getElem?_setIfInBounds_ne (by omega)]; exact e0B.out
     have g1' : (csB.setIfInBounds (j * 3 + 2) (.bool (V key)))[j * 3 + 1]? = some (.string ej) := by rw [Array.getElem?_setIfInBounds_ne (by omega)]; exact e1B.out
     have g2' : (csB.setIfInBounds (j * 3 + 2) (.bool (V key)))[j * 3 + 2]? = some (.bool (V key)) := arr_same s2B
     clear y2 f2 hBE HC
     generalize csB.setIfInBounds (j * 3 + 2) (.bool (V key)) = csF at hBF g0 g1' g2'
     generalize wc.setCell ⟨Bb, j * 3 + 2, none⟩ (.bool (V key)) = wF at hBF ⊢
     obtain ⟨es', clk', hrun, hcF⟩ := cache_put hBF.out.cache (by omega) key ej hkl
     have y0 : wF.cell? ⟨Bb, j * 3, none⟩ = some .nilIface := BI.cell hBF.out g0
     have y1 : wF.cell? ⟨Bb, j * 3 + 1, none⟩ = some (.string ej) := BI.cell hBF.out g1'
     have y2 : wF.cell? ⟨Bb, j * 3 + 2, none⟩ = some (.bool (V key)) := BI.cell hBF.out g2'
     have g0 := Aside0.mk g0
     have g1' := Aside0.mk g1'
     have g2' := Aside0.mk g2'
     have hcF := Aside0.mk hcF
     go_wp2
     have hBN : Aside0 (BInv w4 Mb Bb exprs V (fun q => V (keyT (sg q))) (j + 1) (Go.ChangeMaps.setBlock wF Mb (.map es' clk'))) := ⟨⟨setBlock_below hBF.out.cache hBF.out.below hge5 _, hcF.out, csF, (setBlock_other hBF.out.cache _ (fun e => hMB.out e.symm)).trans hBF.out.blk, hBF.out.size, fun q hq => by
      by_cases e : q = j
      ·subst e
       exact ⟨g0.out, by rw [hej.out]; exact g1'.out, by show csF[q * 3 + 2]? = some (.bool (V (keyT (sg q)))); rw [hkey.out]; exact g2'.out⟩
      ·exact hBF.out.rows q (by omega)⟩⟩
     go_roundg (gk - 1)
     case measure => have := HK.out; omega
     case rel => exact ⟨j + 1, by simp, ⟨by have := HK.out; omega⟩, hBN⟩
   ·go_upto_region 16 with (fail)
    (try simp only [Act.put, List.setIfInBounds_toArray, List.set_cons_zero, List.set_cons_succ])
    have hBD := BI.set (BI.set (BI.set hBC.out hgeB hMB.out (j * 3) (Nat.le_refl _) .nilIface) hgeB hMB.out (j * 3 + 1) (by omega) (.string str)) hgeB hMB.out (j * 3 + 2) (by omega) (.bool (V key))
    replace hBD := Aside0.mk (BI.step hBD (below_alloc (Below.refl _ _) (.cells #[.nilIface, .string str, .bool (V key)] 91)))
    have d0 : (((csB.setIfInBounds (j * 3) .nilIface).setIfInBounds (j * 3 + 1) (.string str)).setIfInBounds (j * 3 + 2) (.bool (V key)))[j * 3]? = some .nilIface := by rw [Array.getElem?_setIfInBounds_ne (by omega), Array.getElem?_setIfInBounds_ne (by omega)]; exact arr_same s0B
    have d1 : (((csB.setIfInBounds (j * 3) .nilIface).setIfInBounds (j * 3 + 1) (.string str)).setIfInBounds (j * 3 + 2) (.bool (V key)))[j * 3 + 1]? = some (.string str) := by rw [Array.getElem?_setIfInBounds_ne (by omega)]; exact arr_same (by rw [Array.size_setIfInBounds]; exact s1B)
    have d2 : (((csB.setIfInBounds (j * 3) .nilIface).setIfInBounds (j * 3 + 1) (.string str)).setIfInBounds (j * 3 + 2) (.bool (V key)))[j * 3 + 2]? = some (.bool (V key)) := arr_same (by rw [Array.size_setIfInBounds, Array.size_setIfInBounds]; exact s2B)
    clear hrun y1 y2 f0 f1 f2 xC hneC hneX hltB hBC
    generalize (((csB.setIfInBounds (j * 3) .nilIface).setIfInBounds (j * 3 + 1) (.string str)).setIfInBounds (j * 3 + 2) (.bool (V key))) = csD at hBD d0 d1 d2
    generalize ((((wC.setCell ⟨Bb, j * 3, none⟩ .nilIface).setCell ⟨Bb, j * 3 + 1, none⟩ (.string str)).setCell ⟨Bb, j * 3 + 2, none⟩ (.bool (V key))).alloc (.cells #[.nilIface, .string str, .bool (V key)] 91)) = wD at hBD ⊢
    have d0 := Aside0.mk d0
    have d2 := Aside0.mk d2
    have xD : wD.cell? (adx.add j) = some (.string ej) := cell_after hBD.out.below hx4.out
    have y1 : wD.cell? ⟨Bb, j * 3 + 1, none⟩ = some (.string str) := BI.cell hBD.out d1
    have f1 := blk_frozen hBD.out.blk (j * 3 + 1)
    have d1 := Aside0.mk d1
    go_wp2
    have hBE := BI.set hBD.out hgeB hMB.out (j * 3 + 1) (by omega) (.string ej)
    have s1D : j * 3 + 1 < csD.size := (Array.getElem?_eq_some_iff.1 d1.out).1
    have hBN := Aside0.mk (BI.next hBE (Nat.le_succ j) (by rw [Array.getElem?_setIfInBounds_ne (by omega)]; exact d0.out) (by rw [hej.out]; exact arr_same s1D) (by rw [Array.getElem?_setIfInBounds_ne (by omega), hkey.out]; exact d2.out))
    clear hBE
    go_roundg (gk - 1)
    case measure => have := HK.out; omega
    case rel => exact ⟨j + 1, by simp, ⟨by have := HK.out; omega⟩, hBN⟩
  ·have qj : ¬ ((j : Int) < (exprs.length : Int)) := by omega
   have ej : j = exprs.length := by have := HK.out; omega
   subst ej
   have hfin := Aside0.mk HJ.out
   have HBf := Aside0.mk (HB4.out.trans (HJ.out.below.mono hz4.out))
   go_wp2
   go_ret
   exact ⟨Bb, cap5, rfl, Nat.le_trans hz4.out hgeB, HJ.out.rows, HBf.out⟩
theorem own_empty {w : World} {B R : Nat} {e : TypeId} {ok : Nat → Prop} (h : w.heap[R]? = some (.cells #[] e (0, 0))) (hB : B ≤ R) (hok : ok R) : Kd.bool.R e w B ok (.slice (some ⟨R, 0, none⟩) 0 0) [] :=
 ⟨fun k hk => by
  have : R = k := by simpa [Value.ownBlock] using hk
  exact this ▸ hok, [], ⟨rfl, .inr ⟨R, 0, #[], rfl, hB, h, Nat.le_refl _, by decide, rfl, rfl⟩⟩, Reps.none _ _⟩
theorem info_bool : (Tryz.prog.info? 4).map (fun i => (i.zero, i.size, i.bytes)) = some (some (.bool false), 1, 1) := by kernel_rfl
set_option maxRecDepth 100000 in
set_option maxHeartbeats 4000000 in
theorem batch_w {y mo d h mi s : Int} (hd : DateOk y mo d) (hc : ClockOk h mi s) (exprs : List ByteArray) (hn : 0 < exprs.length) (hn9 : exprs.length ≤ 9) (V : ByteArray → Bool) (sg : Nat → List ByteArray) (hS : Aside0 (∀ i, i < exprs.length → (∃ k, gronx_Segments.f k (exprs.getD i ByteArray.empty) = some (sg i, none)) ∧ 0 < (sg i).length ∧ (sg i).length ≤ 7 ∧ (Lib.join ((sg i).map (·.data.toList)) [32]).length ≤ 140737488355328 ∧ DueF (extOf y mo d h mi s) 0 (sg i) (V (keyT (sg i))))) :
  BatchC exprs y mo d h mi s ((List.range exprs.length).map fun q => V (keyT (sg q))) (exprs.map fun _ => true) := by
 intro A cc w hA hcc
 have hA := Aside0.mk hA
 have hd := Aside0.mk hd
 have hc := Aside0.mk hc
 go_enter Tryz.func29, Tryz.ntmps29
 go_wp2
 have hsm : SM w.heap.size y mo d h mi s (((w.alloc (.cells #[.int .i64 y, .int .i64 mo, .int .i64 d, .int .i64 h, .int .i64 mi, .int .i64 s] 26)).alloc (.cells #[] 4)).alloc (.cells #[] 4)) := ⟨by simp [go_sem], by simp [go_sem], by simp [go_sem], by simp [go_sem], by simp [go_sem], by simp [go_sem], by simp [go_sem]⟩
 have hE1 : (((w.alloc (.cells #[.int .i64 y, .int .i64 mo, .int .i64 d, .int .i64 h, .int .i64 mi, .int .i64 s] 26)).alloc (.cells #[] 4)).alloc (.cells #[] 4)).heap[w.heap.size + 1]? = some (.cells #[] 4 (0, 0)) := blk_alloc (by have := blk_new (w.alloc (.cells #[.int .i64 y, .int .i64 mo, .int .i64 d, .int .i64 h, .int .i64 mi, .int .i64 s] 26)) (.cells #[] 4); simpa using this) _
 have hE2 : (((w.alloc (.cells #[.int .i64 y, .int .i64 mo, .int .i64 d, .int .i64 h, .int .i64 mi, .int .i64 s] 26)).alloc (.cells #[] 4)).alloc (.cells #[] 4)).heap[w.heap.size + 1 + 1]? = some (.cells #[] 4 (0, 0)) := by have := blk_new ((w.alloc (.cells #[.int .i64 y, .int .i64 mo, .int .i64 d, .int .i64 h, .int .i64 mi, .int .i64 s] 26)).alloc (.cells #[] 4)) (.cells #[] 4); simpa using this
 have hHb : Below w.heap.size w (((w.alloc (.cells #[.int .i64 y, .int .i64 mo, .int .i64 d, .int .i64 h, .int .i64 mi, .int .i64 s] 26)).alloc (.cells #[] 4)).alloc (.cells #[] 4)) := below_alloc (below_alloc (below_alloc (Below.refl _ _) _) _) _
 have hE1 := Aside0.mk hE1
 have hE2 := Aside0.mk hE2
 have hHb := Aside0.mk hHb
 have hsmd := SM.step (below_drew (Below.refl _ _)) hsm
 clear hsm
 have hn0 : Aside0 (w.heap.size + 1 + 1 + 1 = (((w.alloc (.cells #[.int .i64 y, .int .i64 mo, .int .i64 d, .int .i64 h, .int .i64 mi, .int .i64 s] 26)).alloc (.cells #[] 4)).alloc (.cells #[] 4)).heap.size) := ⟨by simp⟩
 generalize (((w.alloc (.cells #[.int .i64 y, .int .i64 mo, .int .i64 d, .int .i64 h, .int .i64 mi, .int .i64 s] 26)).alloc (.cells #[] 4)).alloc (.cells #[] 4)) = wa at hE1 hE2 hHb hsmd hn0 ⊢
 have hgb1 : Aside0 (w.heap.size ≤ w.heap.size + 1) := ⟨by omega⟩
 have hgb2 : Aside0 (w.heap.size ≤ w.heap.size + 1 + 1) := ⟨by omega⟩
 have hne12 : Aside0 (w.heap.size + 1 ≠ w.heap.size + 1 + 1) := ⟨by omega⟩
 generalize w.heap.size + 1 + 1 = b2 at hE2 hgb2 hne12 hn0 ⊢
 generalize w.heap.size + 1 = b1 at hE1 hgb1 hne12 hn0 ⊢
 have hn00 : w.heap.size ≤ wa.heap.size := hHb.out.size
 obtain ⟨n0, hn0e⟩ : ∃ n, w.heap.size = n := ⟨_, rfl⟩
 have hn0e := Aside0.mk hn0e
 have hsm0 := hsmd
 rw [hn0e.out] at hsm0 ⊢
 go_region_held (fun w' => n0 < w'.heap.size ∧ w'.cell? ⟨n0, 0, none⟩ = some (.int .i64 y) ∧ w'.cell? ⟨n0, 1, none⟩ = some (.int .i64 mo) ∧ w'.cell? ⟨n0, 2, none⟩ = some (.int .i64 d) ∧ w'.cell? ⟨n0, 3, none⟩ = some (.int .i64 h) ∧ w'.cell? ⟨n0, 4, none⟩ = some (.int .i64 mi) ∧ w'.cell? ⟨n0, 5, none⟩ = some (.int .i64 s))
   (first | exact hsm0 | exact SM.step ((Below.refl _ _).alloc (Nat.le_refl _) _) (by assumption) | exact SM.step hbn (by assumption) | exact SM.step hbt (by assumption) | exact SM.below hb3 hlt (by assumption) | go_keep) (first | (go_at_call 31; refine (new_c _).mono ?_; rintro e wn ⟨G, C, v0, v1, v2, rfl, hg, hc0, hc1, hc2, hf0, hf1, hf2, hC, hCG, hbn⟩; have hlt : n0 < C := Nat.lt_of_lt_of_le (SM.lt (y := y) (mo := mo) (d := d) (h := h) (mi := mi) (s := s) (by assumption)) hC) | (go_at_call 33; refine (timeOf_w hd.out hc.out _).mono ?_; rintro e wt ⟨rfl, hbt⟩) | (go_at_call 41; have lC : C < wn.heap.size := World.block_lt_of_cell? wn ⟨C, 0, none⟩ hc0; have lG : G < wn.heap.size := World.block_lt_of_cell? wn ⟨G, 0, none⟩ hg; have lt := hbt.size; have lw : w.heap.size ≤ C := Nat.le_trans hn00 hC; refine (batchDue_w C G C wt.heap.size (extOf y mo d h mi s) exprs hn hn9 V sg hS _ A cc v0 v1 v2 (cell_after (below_alloc (Below.refl _ _) _) (cell_after hbt hg)) (cell_after (below_alloc (Below.refl _ _) _) (cell_after hbt hc0)) (cell_after (below_alloc (Below.refl _ _) _) (cell_after hbt hc1)) (cell_after (below_alloc (Below.refl _ _) _) (cell_after hbt hc2)) (frz_after (below_alloc (Below.refl _ _) _) (Nat.lt_of_lt_of_le (World.block_lt_of_cell? wn ⟨C, 0, none⟩ hc0) hbt.size) (frz_after hbt (World.block_lt_of_cell? wn ⟨C, 0, none⟩ hc0) hf0)) (frz_after (below_alloc (Below.refl _ _) _) (Nat.lt_of_lt_of_le (World.block_lt_of_cell? wn ⟨C, 0, none⟩ hc0) hbt.size) (frz_after hbt (World.block_lt_of_cell? wn ⟨C, 0, none⟩ hc0) hf1)) (frz_after (below_alloc (Below.refl _ _) _) (Nat.lt_of_lt_of_le (World.block_lt_of_cell? wn ⟨C, 0, none⟩ hc0) hbt.size) (frz_after hbt (World.block_lt_of_cell? wn ⟨C, 0, none⟩ hc0) hf2)) (blk_new wt _) (Nat.le_refl _) (by omega) (Nat.ne_of_lt hCG) (by omega) (by omega) ⟨fun W hW => Kd.C_below hA.out ((below_alloc (below_step (below_step (below_drew hHb.out) hbn) hbt) _).trans (hW.mono lw))⟩ hcc).mono ?_; rintro e w3 ⟨gR, cap, rfl, hgC, hrows, hb3⟩))
 rename_i hHeld
 clear hHeld
 have lC0 : wa.heap.size ≤ C := hC
 have hWa : Below wa.heap.size wa w3 := (below_alloc (below_step (below_step (below_drew (Below.refl wa.heap.size wa)) hbn) hbt) _).trans (hb3.mono lC0)
 have E1 := Aside0.mk (blk_below hE1.out hWa)
 have E2 := Aside0.mk (blk_below hE2.out hWa)
 have HW3 := Aside0.mk (hHb.out.trans (hWa.mono hn00))
 obtain ⟨cs, hcs, hsz, hrow⟩ := hrows
 have hcs := Aside0.mk hcs
 have hrow := Aside0.mk hrow
 have hsz := Aside0.mk hsz
 clear hb3 hbn hbt hWa hsm0 hsmd hC hCG hc0 hc1 hc2 hg hf0 hf1 hf2 hlt hE1 hE2 hHb hn0 lC0 hgC
 go_wp2
 go_loopg [6, 7, 19] exprs.length (fun kq v6 v7 v19 w' => ∃ j : Nat, v19 = .int .i64 (j : Int) ∧ Aside0 (kq + j = exprs.length) ∧ Aside0 (Kd.bool.R 4 w' w.heap.size (fun k => some k ≠ v7.ownBlock) v6 ((List.range j).map fun q => V (keyT (sg q)))) ∧ Aside0 (Kd.bool.R 4 w' w.heap.size (fun k => some k ≠ v6.ownBlock) v7 ((List.range j).map fun _ => true)) ∧ Aside0 (w'.heap[gR]? = some (.cells cs 91 (0, 0))) ∧ Aside0 (Below w.heap.size w w'))
 case atStart => exact ⟨0, rfl, ⟨rfl⟩, ⟨own_empty E1.out hgb1.out (by simp [Value.ownBlock]; exact hne12.out)⟩, ⟨own_empty E2.out hgb2.out (by simp [Value.ownBlock]; exact fun e => hne12.out e.symm)⟩, hcs, HW3⟩
 case round =>
  obtain ⟨j, rfl, HK, H6, H7, HG, HW⟩ := hrel
  by_cases hj : j < exprs.length
  ·have qj : ((j : Int) < (exprs.length : Int)) := by omega
   have p0 : 0 ≤ (j : Int) := by omega
   obtain ⟨c0, c1, c2⟩ := hrow.out j hj
   have y0 : wr.cell? ⟨gR, j * 3, none⟩ = some .nilIface := (blk_cell HG.out _).trans c0
   have y1 : wr.cell? ⟨gR, j * 3 + 1, none⟩ = some (.string (exprs.getD j ByteArray.empty)) := (blk_cell HG.out _).trans c1
   have y2 : wr.cell? ⟨gR, j * 3 + 2, none⟩ = some (.bool (V (keyT (sg j)))) := (blk_cell HG.out _).trans c2
   clear c0 c1 c2
   obtain ⟨ej, hej⟩ : ∃ e, exprs.getD j ByteArray.empty = e := ⟨_, rfl⟩
   rw [hej] at y1
   clear hej
   go_upto_region 5 with (fail)
   (try simp only [Act.put, List.setIfInBounds_toArray, List.set_cons_zero, List.set_cons_succ])
   have BX := Aside0.mk (blk_new wr (.cells #[.nilIface, .string ej, .bool (V (keyT (sg j)))] 91))
   replace H6 := Aside0.mk (Kd.R_alloc H6.out (.cells #[.nilIface, .string ej, .bool (V (keyT (sg j)))] 91))
   replace H7 := Aside0.mk (Kd.R_alloc H7.out (.cells #[.nilIface, .string ej, .bool (V (keyT (sg j)))] 91))
   replace HG := Aside0.mk (blk_alloc HG.out (.cells #[.nilIface, .string ej, .bool (V (keyT (sg j)))] 91))
   replace HW := Aside0.mk (below_alloc HW.out (.cells #[.nilIface, .string ej, .bool (V (keyT (sg j)))] 91))
   clear y0 y1 y2
   generalize wr.alloc (.cells #[.nilIface, .string ej, .bool (V (keyT (sg j)))] 91) = wb at BX H6 H7 HG HW ⊢
   generalize wr.heap.size = bx at BX ⊢
   have z2 : wb.cell? ⟨bx, 2, none⟩ = some (.bool (V (keyT (sg j)))) := (blk_cell BX.out 2).trans rfl
   go_wp2_with (first | ((with_reducible refine gate_builtin (b := .append) (xs := #[.tmp 23, .tmp 26]) rfl ?_); at_builtin; refine Kd.R_append Kd.bool (w0 := w) w.heap.size rfl (.tmp 23) (.tmp 26) 63 4 (.bool false) 1 rfl Tryz.underlying63 info_bool rfl (by decide) (by omega) u6 ((List.range j).map fun q => V (keyT (sg q))) (V (keyT (sg j))) [.bool (V (keyT (sg j)))] (fun k => some k ≠ u7.ownBlock) (fun _ => False) rfl rfl rfl (fun _ hk => hk.elim) (fun k hk e => by have := own_lt (Kd.own_of_R H7.out) k e.symm; omega) H6.out HW.out HW.out.size (by simp; omega) ?_; intro v6 wx ho6 hb6 hg6 hat6; have hbx := blk_grown BX.out hg6 (own_ne (Kd.own_of_R H6.out) BX.out (by decide)); have HG1 := Aside0.mk (blk_grown HG.out hg6 (own_ne (Kd.own_of_R H6.out) HG.out (by decide))); have H71 := Aside0.mk (Kd.R_after (ok := fun _ => True) (Kd.R_mono H7.out (fun k hk => ⟨trivial, hk⟩)) hg6 hat6); have H61 := Aside0.mk ho6; have HW1 := Aside0.mk hb6; have z0 : wx.cell? ⟨bx, 0, none⟩ = some .nilIface := (blk_cell hbx 0).trans rfl; clear ho6 hb6 hg6 hat6 hbx) | ((with_reducible refine gate_builtin (b := .append) (xs := #[.tmp 28, .tmp 32]) rfl ?_); at_builtin; refine Kd.R_append Kd.bool (w0 := w) w.heap.size rfl (.tmp 28) (.tmp 32) 63 4 (.bool false) 1 rfl Tryz.underlying63 info_bool rfl (by decide) (by omega) u7 ((List.range j).map fun _ => true) true [.bool true] (fun k => some k ≠ v6.ownBlock) (fun _ => False) rfl rfl rfl (fun _ hk => hk.elim) (fun k hk e => by have := own_lt (Kd.own_of_R H61.out) k e.symm; omega) (Kd.R_mono H71.out (fun k hk => hk.2)) HW1.out HW1.out.size (by simp; omega) ?_; intro v7 wy ho7 hb7 hg7 hat7; have HG2 := Aside0.mk (blk_grown HG1.out hg7 (own_ne (Kd.own_of_R H71.out) HG1.out (by decide))); have H62 := Aside0.mk (Kd.R_mono (Kd.R_after (ok := fun _ => True) (Kd.R_mono H61.out (fun k hk => ⟨trivial, hk⟩)) hg7 hat7) (fun k hk => hk.2)); have H72 := Aside0.mk ho7; have HW2 := Aside0.mk hb7; clear ho7 hb7 hg7 hat7))
   have L6 : ((List.range j).map fun q => V (keyT (sg q))) ++ [V (keyT (sg j))] = (List.range (j + 1)).map fun q => V (keyT (sg q)) := by rw [List.range_succ, List.map_append]; rfl
   have L7 : ((List.range j).map fun _ => true) ++ [true] = (List.range (j + 1)).map fun _ => true := by rw [List.range_succ, List.map_append]; rfl
   have H6' := H62.out
   have H7' := H72.out
   rw [L6] at H6'
   rw [L7] at H7'
   have H6' := Aside0.mk H6'
   have H7' := Aside0.mk H7'
   clear L6 L7
   go_roundg (gk - 1)
   case measure => have := HK.out; omega
   case rel => exact ⟨j + 1, by simp, ⟨by have := HK.out; omega⟩, H6', H7', HG2, HW2⟩
  ·have qj : ¬ ((j : Int) < (exprs.length : Int)) := by omega
   have ej : j = exprs.length := by have := HK.out; omega
   have L7 : ((List.range j).map fun _ => true) = exprs.map fun _ => true := by rw [ej]; simp [List.map_const']
   have H7' := H7.out
   rw [L7] at H7'
   have H6' := H6.out
   rw [ej] at H6'
   have H6' := Aside0.mk H6'
   have H7' := Aside0.mk H7'
   clear L7 ej
   go_wp2
   go_ret2
   have q6 := H6'.out
   have q7 := H7'.out
   have qW := HW.out
   rw [hn0e.out] at q6 q7 qW
   exact ⟨_, _, rfl, q6, q7, qW⟩
end Go.Proofs.YtemgofomhjabpaaGreatDoor.Core
namespace Go.Proofs.YtemgofomhjabpaaGreatDoor.Core
open Go.RowKit Go.Proofs.YtemgofomhjabpaaGreatDoorW.PrintWords Go.Proofs.YtemgofomhjabpaaGreatDoorW.PrintLast Go.Proofs.YtemgofomhjabpaaGreatDoorW.PrintMore
attribute [local go_sem] max2_int min2_int max_two min_two max_three min_three max_four min_four   -- for this text's walks alone
set_option linter.unusedVariables false
set_option linter.unusedSimpArgs false
end Go.Proofs.YtemgofomhjabpaaGreatDoor.Core
namespace Go.Proofs.YtemgofomhjabpaaGreatDoor.Core
open Go.RowKit Go.Proofs.YtemgofomhjabpaaGreatDoorW.PrintWords
theorem tmodz (y n : Int) (h : 0 ≤ y) : Int.tmod y n = y % n := Int.tmod_eq_emod_of_nonneg h
theorem leap_some (y : Int) (h : 0 ≤ y) : spec_Leap.f y = some (leapI y) := by
 unfold spec_Leap.f leapI
 rw [tmodz y 4 h, tmodz y 100 h, tmodz y 400 h]
 by_cases h4 : y % 4 = 0
 ·rw [if_pos h4]
  by_cases h1 : y % 100 = 0
  ·rw [if_pos h1]; simp [h4, h1]; rfl
  ·rw [if_neg h1]; simp [h4, h1]
 ·rw [if_neg h4]; simp [h4]
theorem days_some (y mo : Int) (h : 0 ≤ y) (m0 : 1 ≤ mo) (m1 : mo ≤ 12) : spec_Days.f y mo = some (daysI y mo) := by
 unfold spec_Days.f daysI
 by_cases h2 : mo = 2
 ·rw [if_pos h2, leap_some y h, Option.bind_some]
  cases hl : leapI y with
  | true => rw [if_pos rfl, if_pos ⟨h2, rfl⟩]
  | false => rw [if_neg (by simp), if_pos (by omega), if_pos (by omega), if_neg (by simp)]
 ·rw [if_neg h2, if_pos (by omega), if_pos (by omega), if_neg (fun e => h2 e.1)]
theorem days_quiet (y mo : Int) (hd : spec_Days.f y mo = some (daysI y mo)) (w : World) (n : Nat) : Calls Tryz.prog 37 #[.int .i64 y, .int .i64 mo] (w.drewN n) fun e w'' => e = .returned (.int .i64 (daysI y mo)) ∧ ∃ m, w'' = w.drewN m := by
 refine Calls.quiet_of ((spec_Days.calls y mo (daysI y mo) _ hd).mono ?_)
 rintro e w' ⟨rfl, ⟨nd, rfl⟩⟩
 exact ⟨rfl, nd, rfl⟩
def goodM (y mo d h mi s : Int) : Bool := decide (1990 ≤ y ∧ y ≤ 2090 ∧ 1 ≤ mo ∧ mo ≤ 12 ∧ 1 ≤ d ∧ d ≤ daysI y mo ∧ 0 ≤ h ∧ h ≤ 23 ∧ 0 ≤ mi ∧ mi ≤ 59 ∧ 0 ≤ s ∧ s ≤ 59)
set_option maxRecDepth 100000 in
set_option maxHeartbeats 2000000 in
theorem mg_0 (y mo d h mi s : Int) (a0 : ¬ 1990 ≤ y) : GoodC y mo d h mi s false := by
 intro w
 replace a0 : (1990 ≤ y) = False := eq_false a0
 go_enter Tryz.func22, Tryz.ntmps22
 go_wp2
 go_quiet (fail)
 go_wp2
 go_ret
 exact ⟨rfl, by repeat (first | exact Below.refl _ _ | apply below_alloc | apply below_drew1 | apply pw_below_drewN)⟩
set_option maxRecDepth 100000 in
set_option maxHeartbeats 2000000 in
theorem mg_1 (y mo d h mi s : Int) (a0 : 1990 ≤ y) (a1 : ¬ y ≤ 2090) : GoodC y mo d h mi s false := by
 intro w
 replace a1 : (y ≤ 2090) = False := eq_false a1
 go_enter Tryz.func22, Tryz.ntmps22
 go_wp2
 go_quiet (fail)
 go_wp2
 go_ret
 exact ⟨rfl, by repeat (first | exact Below.refl _ _ | apply below_alloc | apply below_drew1 | apply pw_below_drewN)⟩
set_option maxRecDepth 100000 in
set_option maxHeartbeats 2000000 in
theorem mg_2 (y mo d h mi s : Int) (a0 : 1990 ≤ y) (a1 : y ≤ 2090) (a2 : ¬ 1 ≤ mo) : GoodC y mo d h mi s false := by
 intro w
 replace a2 : (1 ≤ mo) = False := eq_false a2
 go_enter Tryz.func22, Tryz.ntmps22
 go_wp2
 go_quiet (fail)
 go_wp2
 go_ret
 exact ⟨rfl, by repeat (first | exact Below.refl _ _ | apply below_alloc | apply below_drew1 | apply pw_below_drewN)⟩
set_option maxRecDepth 100000 in
set_option maxHeartbeats 2000000 in
theorem mg_3 (y mo d h mi s : Int) (a0 : 1990 ≤ y) (a1 : y ≤ 2090) (a2 : 1 ≤ mo) (a3 : ¬ mo ≤ 12) : GoodC y mo d h mi s false := by
 intro w
 replace a3 : (mo ≤ 12) = False := eq_false a3
 go_enter Tryz.func22, Tryz.ntmps22
 go_wp2
 go_quiet (fail)
 go_wp2
 go_ret
 exact ⟨rfl, by repeat (first | exact Below.refl _ _ | apply below_alloc | apply below_drew1 | apply pw_below_drewN)⟩
set_option maxRecDepth 100000 in
set_option maxHeartbeats 2000000 in
theorem mg_4 (y mo d h mi s : Int) (a0 : 1990 ≤ y) (a1 : y ≤ 2090) (a2 : 1 ≤ mo) (a3 : mo ≤ 12) (a4 : ¬ 1 ≤ d) : GoodC y mo d h mi s false := by
 intro w
 replace a4 : (1 ≤ d) = False := eq_false a4
 go_enter Tryz.func22, Tryz.ntmps22
 go_wp2
 go_quiet (fail)
 go_wp2
 go_ret
 exact ⟨rfl, by repeat (first | exact Below.refl _ _ | apply below_alloc | apply below_drew1 | apply pw_below_drewN)⟩
theorem cumI_one (y : Int) : cumI y 1 = 0 := by unfold cumI; rw [if_neg (by omega)]; rfl
theorem cumI_step (y : Int) (j : Int) (h0 : 1 ≤ j) (h1 : j ≤ 11) : cumI y (j + 1) = cumI y j + daysI y j := by
 unfold cumI daysI
 rcases (show j = 1 ∨ j = 2 ∨ j = 3 ∨ j = 4 ∨ j = 5 ∨ j = 6 ∨ j = 7 ∨ j = 8 ∨ j = 9 ∨ j = 10 ∨ j = 11 by omega) with h | h | h | h | h | h | h | h | h | h | h <;> subst h <;> (cases leapI y <;> simp [rd])
theorem weekday_from (y mo : Int) (y0 : 0 ≤ y) (m1 : mo ≤ 12) (base : Int) (b0 : 0 ≤ base) (b1 : base ≤ 1000000) :
  ∀ (d : Nat) (j : Int), (mo - j).toNat = d → 1 ≤ j → j ≤ mo → Ev (fun k => spec_Weekday.l0 k y mo (base + cumI y j) j) ((base + cumI y mo) % 7) := by
 intro d
 induction d with
 | zero =>
  intro j hd h1 h2
  obtain rfl : j = mo := by omega
  have hc := cumI_range y j h1 m1
  refine Ev.done fun k => ?_
  simp only [spec_Weekday.l0]
  rw [if_neg (by omega), Int.tmod_eq_emod_of_nonneg (by omega)]
 | succ d ih =>
  intro j hd h1 h2
  have hlt : j < mo := by omega
  have hc := cumI_range y j h1 (by omega)
  have hc2 := cumI_range y (j + 1) (by omega) (by omega)
  have hst := cumI_step y j h1 (by omega)
  have hrec := ih (j + 1) (by omega) (by omega) (by omega)
  refine Ev.step (fun k => ?_) hrec
  simp only [spec_Weekday.l0, days_some y j y0 h1 (by omega), Option.bind_some]
  rw [if_pos hlt, wrap64_id (by omega) (by omega), wrap64_id (by omega) (by omega), show base + cumI y j + daysI y j = base + cumI y (j + 1) by omega]
theorem weekday_ev {y mo d : Int} (h : DateOk y mo d) : Ev (fun k => spec_Weekday.f k y mo d) (wdI y mo d) := by
 have y0 := h.y0
 have y1 := h.y1
 have h31 := (daysI_cases y mo h.m0 h.m1).1
 have d0 := h.d0
 have d1 := h.d1
 unfold spec_Weekday.f
 have e : wrap64 ((wrap64 ((wrap64 ((wrap64 ((wrap64 ((wrap64 (y - 1)) * 365)) + (wrap64 (Int.tdiv (wrap64 (y - 1)) 4)))) - (wrap64 (Int.tdiv (wrap64 (y - 1)) 100)))) + (wrap64 (Int.tdiv (wrap64 (y - 1)) 400)))) + d) = ((y - 1) * 365 + (y - 1) / 4 - (y - 1) / 100 + (y - 1) / 400 + d) + cumI y 1 := by
  rw [cumI_one, wrap64_id (i := y - 1) (by omega) (by omega), Int.tdiv_eq_ediv_of_nonneg (show 0 ≤ y - 1 by omega), Int.tdiv_eq_ediv_of_nonneg (show 0 ≤ y - 1 by omega), Int.tdiv_eq_ediv_of_nonneg (show 0 ≤ y - 1 by omega)]
  unfold wrap64
  omega
 rw [e]
 have := weekday_from y mo (by omega) h.m1 ((y - 1) * 365 + (y - 1) / 4 - (y - 1) / 100 + (y - 1) / 400 + d) (by omega) (by omega) (mo - 1).toNat 1 rfl (by omega) h.m0
 exact this
def fitB (Fs : List (List It)) (y mo d h mi s : Int) : Bool := (List.range 6).all fun q => hasF q (Fs.getD q []) (posV y mo d h mi s q)
theorem fits_ev (f0 f1 f2 f3 f4 f5 : List It) (secs : Bool) {y mo d h mi s : Int} (hd : DateOk y mo d) (hc : ClockOk h mi s) (h0 : goodF 0 f0 = true) (h1 : goodF 1 f1 = true) (h2 : goodF 2 f2 = true) (h3 : goodF 3 f3 = true) (h4 : goodF 4 f4 = true) (h5 : goodF 5 f5 = true) :
  Ev (fun k => spec_Fits.f k [f0, f1, f2, f3, f4, f5] secs y mo d h mi s) (fitB [f0, f1, f2, f3, f4, f5] y mo d h mi s) := by
 have h31 := (daysI_cases y mo hd.m0 hd.m1).1
 have d0 := hd.d0
 have d1 := hd.d1
 have m0 := hd.m0
 have m1 := hd.m1
 have c0 := hc.h0
 have c1 := hc.h1
 have c2 := hc.m0
 have c3 := hc.m1
 have c4 := hc.s0
 have c5 := hc.s1
 have hw0 : 0 ≤ wdI y mo d := Int.emod_nonneg _ (by decide)
 have hw1 : wdI y mo d < 7 := Int.emod_lt_of_pos _ (by decide)
 have e0 := has_ev 0 (by decide) f0 h0 s (by omega) (by omega)
 have e1 := has_ev 1 (by decide) f1 h1 mi (by omega) (by omega)
 have e2 := has_ev 2 (by decide) f2 h2 h (by omega) (by omega)
 have e3 := has_ev 3 (by decide) f3 h3 d (by omega) (by omega)
 have e4 := has_ev 4 (by decide) f4 h4 mo (by omega) (by omega)
 have e5 := has_ev 5 (by decide) f5 h5 (wdI y mo d) (by omega) (by omega)
 have eW := weekday_ev hd
 have hv : fitB [f0, f1, f2, f3, f4, f5] y mo d h mi s = (hasF 0 f0 s && (hasF 1 f1 mi && (hasF 2 f2 h && (hasF 3 f3 d && (hasF 4 f4 mo && (hasF 5 f5 (wdI y mo d) && true)))))) := rfl
 have hday : Ev (fun k => spec_DayFits.f k [f0, f1, f2, f3, f4, f5] secs y mo d h mi s) (hasF 3 f3 d && (hasF 4 f4 mo && hasF 5 f5 (wdI y mo d))) := by
  unfold spec_DayFits.f
  refine Ev.congr (fun k => if_pos (by simp)) (Ev.bind e3 ?_)
  cases hasF 3 f3 d with
  | false => exact Ev.const rfl
  | true =>
   refine Ev.congr (fun k => (if_pos rfl).trans (if_pos (by simp))) (Ev.bind e4 ?_)
   cases hasF 4 f4 mo with
   | false => exact Ev.const rfl
   | true =>
    refine Ev.congr (fun k => (if_pos rfl).trans (if_pos (by simp))) (Ev.bind eW (Ev.bind e5 (Ev.const ?_)))
    simp
 unfold spec_Fits.f
 refine Ev.bind hday ?_
 rw [hv]
 cases hb : (hasF 3 f3 d && (hasF 4 f4 mo && hasF 5 f5 (wdI y mo d))) with
 | false =>
  refine Ev.const ?_
  revert hb
  cases hasF 3 f3 d <;> cases hasF 4 f4 mo <;> cases hasF 5 f5 (wdI y mo d) <;> simp
 | true =>
  have hb3 : hasF 3 f3 d = true := by simp at hb; exact hb.1
  have hb4 : hasF 4 f4 mo = true := by simp at hb; exact hb.2.1
  have hb5 : hasF 5 f5 (wdI y mo d) = true := by simp at hb; exact hb.2.2
  rw [hb3, hb4, hb5]
  refine Ev.congr (fun k => (if_pos rfl).trans (if_pos (by simp))) (Ev.bind e2 ?_)
  cases hasF 2 f2 h with
  | false => exact Ev.const (by simp)
  | true =>
   refine Ev.congr (fun k => (if_pos rfl).trans (if_pos (by simp))) (Ev.bind e1 ?_)
   cases hasF 1 f1 mi with
   | false => exact Ev.const (by simp)
   | true =>
    refine Ev.congr (fun k => (if_pos rfl).trans (if_pos (by simp))) (Ev.bind e0 (Ev.const ?_))
    simp
theorem joinL_single (c : UInt8) (P : List (List UInt8)) (hne : P ≠ []) (hP : ∀ p ∈ P, p ≠ []) (a : UInt8) (h : joinL c P = [a]) : P = [[a]] := by
 match P, hne with
 | [p], _ => rw [joinL] at h; rw [h]
 | p :: q :: t, _ =>
  exfalso
  have h1 := hP p (by simp)
  have h2 := joinL_ne c (q :: t) (by simp) (fun p hp => hP p (by simp [hp]))
  rw [joinL] at h
  have := congrArg List.length h
  simp only [List.length_append, List.length_cons, List.length_nil] at this
  have l1 := List.length_pos_iff.2 h1
  omega
theorem field_star {i : Nat} {l : List It} (hg : goodF i l = true) (h : fieldL l = [42]) : starF l = true := by
 obtain ⟨h1, h2, h3⟩ := goodF_spec hg
 have e := joinL_single 44 (l.map itemL) (by intro e; have := congrArg List.length e; simp at this; subst this; simp at h2) (fun p hp => by obtain ⟨x, _, rfl⟩ := List.mem_map.1 hp; exact itemL_ne x) 42 h
 have hl1 : l.length = 1 := by have := congrArg List.length e; simpa using this
 obtain ⟨x, rfl⟩ := List.length_eq_one_iff.1 hl1
 have hx : itemL x = [42] := by simpa using e
 obtain ⟨s1, _, _⟩ := goodItem_spec (h1 x (by simp))
 cases h0 : x.f0 with
 | false =>
  exfalso
  unfold itemL at hx
  rw [h0] at hx
  exact dec_ne' x.f1.toNat _ 42 [] (by decide) hx
 | true =>
  by_cases hs : 1 < x.f3
  ·exfalso
   simp [itemL, h0, stepL, hs] at hx
  ·have : x.f3 = 1 := by omega
   simp [starF, h0, this]
theorem star_field {l : List It} (h : starF l = true) : fieldL l = [42] ∧ ∃ x, l = [x] ∧ x.f0 = true ∧ x.f3 = 1 := by
 unfold starF at h
 split at h
 ·rename_i x
  simp only [Bool.and_eq_true, beq_iff_eq] at h
  exact ⟨by simp [fieldL, joinL, itemL, stepL, h.1, h.2], x, rfl, h.1, h.2⟩
 ·cases h
theorem star_has {i : Nat} {l : List It} (h : starF l = true) (n : Int) (n0 : lowI i ≤ n) (n1 : n ≤ highI i) : hasF i l n = true := by
 obtain ⟨_, x, rfl, h0, h1⟩ := star_field h
 simp [hasF, hasIt, h0, h1, n0, n1, Int.emod_one]
theorem field_no63 {i : Nat} {l : List It} (hg : goodF i l = true) : fieldL l ≠ [63] := by
 intro h
 obtain ⟨h1, h2, h3⟩ := goodF_spec hg
 have e := joinL_single 44 (l.map itemL) (by intro e; have := congrArg List.length e; simp at this; subst this; simp at h2) (fun p hp => by obtain ⟨x, _, rfl⟩ := List.mem_map.1 hp; exact itemL_ne x) 63 h
 have : ([63] : List UInt8) ∈ l.map itemL := by rw [e]; simp
 obtain ⟨x, _, hx⟩ := List.mem_map.1 this
 exact itemL_not x 63 (by decide) (by decide) (by decide) (by decide) (by rw [hx]; simp)
set_option maxRecDepth 100000 in
set_option maxHeartbeats 2000000 in
theorem mg_5 (y mo d h mi s : Int) (a0 : 1990 ≤ y) (a1 : y ≤ 2090) (a2 : 1 ≤ mo) (a3 : mo ≤ 12) (a4 : 1 ≤ d) (a5 : ¬ d ≤ daysI y mo) : GoodC y mo d h mi s false := by
 intro w
 have hdy := Aside0.mk (days_some y mo (by omega) a2 a3)
 replace a5 : (d ≤ daysI y mo) = False := eq_false a5
 go_enter Tryz.func22, Tryz.ntmps22
 go_wp2
 go_quiet (first | (go_at_call 37; exact days_quiet y mo hdy.out _ _))
 go_wp2
 go_ret
 exact ⟨rfl, by repeat (first | exact Below.refl _ _ | apply below_alloc | apply below_drew1 | apply pw_below_drewN)⟩
set_option maxRecDepth 100000 in
set_option maxHeartbeats 2000000 in
theorem mg_6 (y mo d h mi s : Int) (a0 : 1990 ≤ y) (a1 : y ≤ 2090) (a2 : 1 ≤ mo) (a3 : mo ≤ 12) (a4 : 1 ≤ d) (a5 : d ≤ daysI y mo) (a6 : ¬ 0 ≤ h) : GoodC y mo d h mi s false := by
 intro w
 have hdy := Aside0.mk (days_some y mo (by omega) a2 a3)
 replace a6 : (0 ≤ h) = False := eq_false a6
 go_enter Tryz.func22, Tryz.ntmps22
 go_wp2
 go_quiet (first | (go_at_call 37; exact days_quiet y mo hdy.out _ _))
 go_wp2
 go_ret
 exact ⟨rfl, by repeat (first | exact Below.refl _ _ | apply below_alloc | apply below_drew1 | apply pw_below_drewN)⟩
set_option maxRecDepth 100000 in
set_option maxHeartbeats 2000000 in
theorem mg_7 (y mo d h mi s : Int) (a0 : 1990 ≤ y) (a1 : y ≤ 2090) (a2 : 1 ≤ mo) (a3 : mo ≤ 12) (a4 : 1 ≤ d) (a5 : d ≤ daysI y mo) (a6 : 0 ≤ h) (a7 : ¬ h ≤ 23) : GoodC y mo d h mi s false := by
 intro w
 have hdy := Aside0.mk (days_some y mo (by omega) a2 a3)
 replace a7 : (h ≤ 23) = False := eq_false a7
 go_enter Tryz.func22, Tryz.ntmps22
 go_wp2
 go_quiet (first | (go_at_call 37; exact days_quiet y mo hdy.out _ _))
 go_wp2
 go_ret
 exact ⟨rfl, by repeat (first | exact Below.refl _ _ | apply below_alloc | apply below_drew1 | apply pw_below_drewN)⟩
set_option maxRecDepth 100000 in
set_option maxHeartbeats 2000000 in
theorem mg_8 (y mo d h mi s : Int) (a0 : 1990 ≤ y) (a1 : y ≤ 2090) (a2 : 1 ≤ mo) (a3 : mo ≤ 12) (a4 : 1 ≤ d) (a5 : d ≤ daysI y mo) (a6 : 0 ≤ h) (a7 : h ≤ 23) (a8 : ¬ 0 ≤ mi) : GoodC y mo d h mi s false := by
 intro w
 have hdy := Aside0.mk (days_some y mo (by omega) a2 a3)
 replace a8 : (0 ≤ mi) = False := eq_false a8
 go_enter Tryz.func22, Tryz.ntmps22
 go_wp2
 go_quiet (first | (go_at_call 37; exact days_quiet y mo hdy.out _ _))
 go_wp2
 go_ret
 exact ⟨rfl, by repeat (first | exact Below.refl _ _ | apply below_alloc | apply below_drew1 | apply pw_below_drewN)⟩
set_option maxRecDepth 100000 in
set_option maxHeartbeats 2000000 in
theorem mg_9 (y mo d h mi s : Int) (a0 : 1990 ≤ y) (a1 : y ≤ 2090) (a2 : 1 ≤ mo) (a3 : mo ≤ 12) (a4 : 1 ≤ d) (a5 : d ≤ daysI y mo) (a6 : 0 ≤ h) (a7 : h ≤ 23) (a8 : 0 ≤ mi) (a9 : ¬ mi ≤ 59) : GoodC y mo d h mi s false := by
 intro w
 have hdy := Aside0.mk (days_some y mo (by omega) a2 a3)
 replace a9 : (mi ≤ 59) = False := eq_false a9
 go_enter Tryz.func22, Tryz.ntmps22
 go_wp2
 go_quiet (first | (go_at_call 37; exact days_quiet y mo hdy.out _ _))
 go_wp2
 go_ret
 exact ⟨rfl, by repeat (first | exact Below.refl _ _ | apply below_alloc | apply below_drew1 | apply pw_below_drewN)⟩
set_option maxRecDepth 100000 in
set_option maxHeartbeats 2000000 in
theorem mg_10 (y mo d h mi s : Int) (a0 : 1990 ≤ y) (a1 : y ≤ 2090) (a2 : 1 ≤ mo) (a3 : mo ≤ 12) (a4 : 1 ≤ d) (a5 : d ≤ daysI y mo) (a6 : 0 ≤ h) (a7 : h ≤ 23) (a8 : 0 ≤ mi) (a9 : mi ≤ 59) (a10 : ¬ 0 ≤ s) : GoodC y mo d h mi s false := by
 intro w
 have hdy := Aside0.mk (days_some y mo (by omega) a2 a3)
 replace a10 : (0 ≤ s) = False := eq_false a10
 go_enter Tryz.func22, Tryz.ntmps22
 go_wp2
 go_quiet (first | (go_at_call 37; exact days_quiet y mo hdy.out _ _))
 go_wp2
 go_ret
 exact ⟨rfl, by repeat (first | exact Below.refl _ _ | apply below_alloc | apply below_drew1 | apply pw_below_drewN)⟩
set_option maxRecDepth 100000 in
set_option maxHeartbeats 2000000 in
theorem mg_11 (y mo d h mi s : Int) (a0 : 1990 ≤ y) (a1 : y ≤ 2090) (a2 : 1 ≤ mo) (a3 : mo ≤ 12) (a4 : 1 ≤ d) (a5 : d ≤ daysI y mo) (a6 : 0 ≤ h) (a7 : h ≤ 23) (a8 : 0 ≤ mi) (a9 : mi ≤ 59) (a10 : 0 ≤ s) (a11 : ¬ s ≤ 59) : GoodC y mo d h mi s false := by
 intro w
 have hdy := Aside0.mk (days_some y mo (by omega) a2 a3)
 replace a11 : (s ≤ 59) = False := eq_false a11
 go_enter Tryz.func22, Tryz.ntmps22
 go_wp2
 go_quiet (first | (go_at_call 37; exact days_quiet y mo hdy.out _ _))
 go_wp2
 go_ret
 exact ⟨rfl, by repeat (first | exact Below.refl _ _ | apply below_alloc | apply below_drew1 | apply pw_below_drewN)⟩
set_option maxRecDepth 100000 in
set_option maxHeartbeats 2000000 in
theorem mg_12 (y mo d h mi s : Int) (a0 : 1990 ≤ y) (a1 : y ≤ 2090) (a2 : 1 ≤ mo) (a3 : mo ≤ 12) (a4 : 1 ≤ d) (a5 : d ≤ daysI y mo) (a6 : 0 ≤ h) (a7 : h ≤ 23) (a8 : 0 ≤ mi) (a9 : mi ≤ 59) (a10 : 0 ≤ s) (a11 : s ≤ 59) : GoodC y mo d h mi s true := by
 intro w
 have hdy := Aside0.mk (days_some y mo (by omega) a2 a3)
 go_enter Tryz.func22, Tryz.ntmps22
 go_wp2
 go_quiet (first | (go_at_call 37; exact days_quiet y mo hdy.out _ _))
 go_wp2
 go_ret
 exact ⟨rfl, by repeat (first | exact Below.refl _ _ | apply below_alloc | apply below_drew1 | apply pw_below_drewN)⟩
theorem goodM_eq (y mo d h mi s : Int) : spec_MomentGood.f y mo d h mi s = some (goodM y mo d h mi s) := by
 unfold goodM
 by_cases b0 : ¬ 1990 ≤ y
 ·rw [(mg_0 y mo d h mi s b0).eq, decide_eq_false (fun e => b0 e.1)]
 have a0 : 1990 ≤ y := Decidable.of_not_not b0
 by_cases b1 : ¬ y ≤ 2090
 ·rw [(mg_1 y mo d h mi s a0 b1).eq, decide_eq_false (fun e => b1 e.2.1)]
 have a1 : y ≤ 2090 := Decidable.of_not_not b1
 by_cases b2 : ¬ 1 ≤ mo
 ·rw [(mg_2 y mo d h mi s a0 a1 b2).eq, decide_eq_false (fun e => b2 e.2.2.1)]
 have a2 : 1 ≤ mo := Decidable.of_not_not b2
 by_cases b3 : ¬ mo ≤ 12
 ·rw [(mg_3 y mo d h mi s a0 a1 a2 b3).eq, decide_eq_false (fun e => b3 e.2.2.2.1)]
 have a3 : mo ≤ 12 := Decidable.of_not_not b3
 by_cases b4 : ¬ 1 ≤ d
 ·rw [(mg_4 y mo d h mi s a0 a1 a2 a3 b4).eq, decide_eq_false (fun e => b4 e.2.2.2.2.1)]
 have a4 : 1 ≤ d := Decidable.of_not_not b4
 by_cases b5 : ¬ d ≤ daysI y mo
 ·rw [(mg_5 y mo d h mi s a0 a1 a2 a3 a4 b5).eq, decide_eq_false (fun e => b5 e.2.2.2.2.2.1)]
 have a5 : d ≤ daysI y mo := Decidable.of_not_not b5
 by_cases b6 : ¬ 0 ≤ h
 ·rw [(mg_6 y mo d h mi s a0 a1 a2 a3 a4 a5 b6).eq, decide_eq_false (fun e => b6 e.2.2.2.2.2.2.1)]
 have a6 : 0 ≤ h := Decidable.of_not_not b6
 by_cases b7 : ¬ h ≤ 23
 ·rw [(mg_7 y mo d h mi s a0 a1 a2 a3 a4 a5 a6 b7).eq, decide_eq_false (fun e => b7 e.2.2.2.2.2.2.2.1)]
 have a7 : h ≤ 23 := Decidable.of_not_not b7
 by_cases b8 : ¬ 0 ≤ mi
 ·rw [(mg_8 y mo d h mi s a0 a1 a2 a3 a4 a5 a6 a7 b8).eq, decide_eq_false (fun e => b8 e.2.2.2.2.2.2.2.2.1)]
 have a8 : 0 ≤ mi := Decidable.of_not_not b8
 by_cases b9 : ¬ mi ≤ 59
 ·rw [(mg_9 y mo d h mi s a0 a1 a2 a3 a4 a5 a6 a7 a8 b9).eq, decide_eq_false (fun e => b9 e.2.2.2.2.2.2.2.2.2.1)]
 have a9 : mi ≤ 59 := Decidable.of_not_not b9
 by_cases b10 : ¬ 0 ≤ s
 ·rw [(mg_10 y mo d h mi s a0 a1 a2 a3 a4 a5 a6 a7 a8 a9 b10).eq, decide_eq_false (fun e => b10 e.2.2.2.2.2.2.2.2.2.2.1)]
 have a10 : 0 ≤ s := Decidable.of_not_not b10
 by_cases b11 : ¬ s ≤ 59
 ·rw [(mg_11 y mo d h mi s a0 a1 a2 a3 a4 a5 a6 a7 a8 a9 a10 b11).eq, decide_eq_false (fun e => b11 e.2.2.2.2.2.2.2.2.2.2.2)]
 have a11 : s ≤ 59 := Decidable.of_not_not b11
 rw [(mg_12 y mo d h mi s a0 a1 a2 a3 a4 a5 a6 a7 a8 a9 a10 a11).eq, decide_eq_true ⟨a0, a1, a2, a3, a4, a5, a6, a7, a8, a9, a10, a11⟩]
abbrev Ro := S69
def cv (x : Ro) : It := ⟨x.f0, x.f1, x.f2, x.f3⟩
def cvs (raw : List (List Ro)) : List (List It) := raw.map fun l => l.map cv
def fitsB (raw : List (List Ro)) : Bool := decide (raw.length ≤ 2147483647) && raw.all fun l => decide (l.length ≤ 2147483647)
theorem rdRo_at (l : List Ro) (j : Nat) (h : j < l.length) : rd_T69 l (j : Int) = l[j] := by simp [rd_T69, h]
theorem rdRoF_at (l : List (List Ro)) (j : Nat) (h : j < l.length) : rd_L3 l (j : Int) = l[j] := by simp [rd_L3, h]
theorem fits_from (raw : List (List Ro)) (hl : raw.length ≤ 2147483647) :
  ∀ (rest : List (List Ro)) (j : Nat), raw.drop j = rest → j ≤ raw.length → Ev (fun k => laws_zzFits2.l0 k raw (raw.length : Int) (j : Int)) (rest.all fun l => decide (l.length ≤ 2147483647)) := by
 intro rest
 induction rest with
 | nil =>
  intro j hj hjl
  have hlen : raw.length ≤ j := List.drop_eq_nil_iff.1 hj
  refine Ev.done fun k => ?_
  simp only [laws_zzFits2.l0]
  rw [if_neg (by omega)]
  rfl
 | cons x t ih =>
  intro j hj hjl
  have hlt : j < raw.length := by
   rcases Nat.lt_or_ge j raw.length with h | h
   ·exact h
   ·rw [List.drop_eq_nil_of_le h] at hj; cases hj
  have hx : raw[j] = x := by
   have := List.drop_eq_getElem_cons hlt
   rw [hj] at this
   exact (List.cons.inj this).1.symm
  have ht : raw.drop (j + 1) = t := by rw [← List.drop_drop, hj]; rfl
  have hrd := rdRoF_at raw j hlt
  rw [hx] at hrd
  have hrec := ih (j + 1) ht (by omega)
  rw [List.all_cons]
  by_cases h1 : x.length ≤ 2147483647
  ·rw [decide_eq_true h1, Bool.true_and]
   refine Ev.step (f := fun k => laws_zzFits2.l0 k raw (raw.length : Int) ((j + 1 : Nat) : Int)) (fun k => ?_) hrec
   simp only [laws_zzFits2.l0, hrd]
   rw [if_pos (by omega), if_pos (by omega), if_pos (by omega), if_neg (by omega), wrap64_nat j (by omega)]
  ·rw [decide_eq_false h1, Bool.false_and]
   refine Ev.done fun k => ?_
   simp only [laws_zzFits2.l0, hrd]
   rw [if_pos (by omega), if_pos (by omega), if_pos (by omega), if_pos (by omega)]
theorem fits2_ev (raw : List (List Ro)) : Ev (fun k => laws_zzFits2.f k raw) (fitsB raw) := by
 unfold fitsB
 by_cases h : raw.length ≤ 2147483647
 ·rw [decide_eq_true h, Bool.true_and]
  refine Ev.congr (f := fun k => laws_zzFits2.l0 k raw (raw.length : Int) ((0 : Nat) : Int)) (fun k => ?_) (fits_from raw h raw 0 rfl (Nat.zero_le _))
  unfold laws_zzFits2.f
  rw [if_neg (by omega)]
  rfl
 ·rw [decide_eq_false h, Bool.false_and]
  refine Ev.congr (f := fun _ => some false) (fun k => ?_) (Ev.const rfl)
  unfold laws_zzFits2.f
  rw [if_pos (by omega)]
theorem fits1_ev (raw : List (List Ro)) (secs : Bool) : Ev (fun k => laws_zzFits1.f k raw secs) (fitsB raw) := by
 unfold laws_zzFits1.f
 refine Ev.bind (f := fun _ t => if t = true then some true else some false) (fits2_ev raw) (Ev.const ?_)
 cases fitsB raw <;> rfl
theorem fitsB_spec {raw : List (List Ro)} (h : fitsB raw = true) : raw.length ≤ 2147483647 ∧ ∀ l ∈ raw, l.length ≤ 2147483647 := by
 unfold fitsB at h
 simp only [Bool.and_eq_true, decide_eq_true_eq, List.all_eq_true] at h
 exact h
theorem expr_l1 (raw : List (List Ro)) (j : Int) (out : List (List It)) (secs : Bool) (l : List Ro) (hl : l.length ≤ 2147483647) (r : List (List It) × Bool) (ho : out.length < 5864062014805)
  (hn : Ev (fun k => laws_expr.l0 k raw (raw.length : Int) (wrap64 (j + 1)) (out ++ [l.map cv]) secs) r) :
  ∀ (rest : List Ro) (i : Nat), l.drop i = rest → i ≤ l.length → Ev (fun k => laws_expr.l1 k ((l.take i).map cv) raw (raw.length : Int) j l (l.length : Int) (i : Int) out secs) r := by
 intro rest
 induction rest with
 | nil =>
  intro i hi hil
  have hlen : l.length ≤ i := List.drop_eq_nil_iff.1 hi
  refine Ev.step (f := fun k => laws_expr.l0 k raw (raw.length : Int) (wrap64 (j + 1)) (out ++ [l.map cv]) secs) (fun k => ?_) hn
  simp only [laws_expr.l1]
  rw [if_neg (by omega), if_pos ho, List.take_of_length_le hlen]
 | cons x t ih =>
  intro i hi hil
  have hlt : i < l.length := by
   rcases Nat.lt_or_ge i l.length with h | h
   ·exact h
   ·rw [List.drop_eq_nil_of_le h] at hi; cases hi
  have ht : l.drop (i + 1) = t := by rw [← List.drop_drop, hi]; rfl
  have hrec := ih (i + 1) ht (by omega)
  refine Ev.step (f := fun k => laws_expr.l1 k ((l.take (i + 1)).map cv) raw (raw.length : Int) j l (l.length : Int) ((i + 1 : Nat) : Int) out secs) (fun k => ?_) hrec
  simp only [laws_expr.l1, rdRo_at l i hlt]
  rw [if_pos (by omega), if_pos (by omega), if_pos (by omega), if_pos (by rw [List.length_map, List.length_take]; omega), wrap64_nat i (by omega), List.take_succ_eq_append_getElem hlt, List.map_append]
  rfl
theorem expr_from (raw : List (List Ro)) (secs : Bool) (h : fitsB raw = true) :
  ∀ (rest : List (List Ro)) (j : Nat), raw.drop j = rest → j ≤ raw.length → Ev (fun k => laws_expr.l0 k raw (raw.length : Int) (j : Int) (cvs (raw.take j)) secs) (cvs raw, secs) := by
 obtain ⟨hl, hall⟩ := fitsB_spec h
 intro rest
 induction rest with
 | nil =>
  intro j hj hjl
  have hlen : raw.length ≤ j := List.drop_eq_nil_iff.1 hj
  refine Ev.done fun k => ?_
  simp only [laws_expr.l0]
  rw [if_neg (by omega), List.take_of_length_le hlen]
 | cons x t ih =>
  intro j hj hjl
  have hlt : j < raw.length := by
   rcases Nat.lt_or_ge j raw.length with h | h
   ·exact h
   ·rw [List.drop_eq_nil_of_le h] at hj; cases hj
  have hx : raw[j] = x := by
   have := List.drop_eq_getElem_cons hlt
   rw [hj] at this
   exact (List.cons.inj this).1.symm
  have ht : raw.drop (j + 1) = t := by rw [← List.drop_drop, hj]; rfl
  have hrd := rdRoF_at raw j hlt
  rw [hx] at hrd
  have hrec := ih (j + 1) ht (by omega)
  have hxl : x.length ≤ 2147483647 := hall x (by rw [← hx]; exact List.getElem_mem hlt)
  have hout : (cvs (raw.take j)).length < 5864062014805 := by unfold cvs; rw [List.length_map, List.length_take]; omega
  have e : cvs (raw.take (j + 1)) = cvs (raw.take j) ++ [x.map cv] := by unfold cvs; rw [List.take_succ_eq_append_getElem hlt, List.map_append, hx]; rfl
  rw [e] at hrec
  have h1 := expr_l1 raw (j : Int) (cvs (raw.take j)) secs x hxl (cvs raw, secs) hout (by rw [wrap64_nat j (by omega)]; exact hrec) x 0 rfl (Nat.zero_le _)
  refine Ev.step (f := fun k => laws_expr.l1 k [] raw (raw.length : Int) (j : Int) x (x.length : Int) 0 (cvs (raw.take j)) secs) (fun k => ?_) h1
  simp only [laws_expr.l0, hrd]
  rw [if_pos (by omega), if_pos (by omega), if_pos (by omega)]
theorem expr_ev (raw : List (List Ro)) (secs : Bool) (h : fitsB raw = true) : Ev (fun k => laws_expr.f k raw secs) (cvs raw, secs) :=
 expr_from raw secs h raw 0 rfl (Nat.zero_le _)
theorem cvs_len {raw : List (List Ro)} (h : fitsB raw = true) : ∀ l ∈ cvs raw, l.length < 4611686018427387904 := by
 intro l hl
 unfold cvs at hl
 obtain ⟨m, hm, rfl⟩ := List.mem_map.1 hl
 have := (fitsB_spec h).2 m hm
 rw [List.length_map]
 omega
theorem goodM_spec {y mo d h mi s : Int} (hM : goodM y mo d h mi s = true) : DateOk y mo d ∧ ClockOk h mi s := by
 obtain ⟨a0, a1, a2, a3, a4, a5, a6, a7, a8, a9, a10, a11⟩ := of_decide_eq_true hM
 exact ⟨⟨by omega, by omega, a2, a3, a4, a5⟩, ⟨a6, a7, a8, a9, a10, a11⟩⟩
theorem fitsE_ev {Fs : List (List It)} {secs : Bool} (hE : goodE Fs secs = true) {y mo d h mi s : Int} (hd : DateOk y mo d) (hc : ClockOk h mi s) : Ev (fun k => spec_Fits.f k Fs secs y mo d h mi s) (fitB Fs y mo d h mi s) := by
 obtain ⟨f0, f1, f2, f3, f4, f5, rfl, h0, h1, h2, h3, h4, h5, _⟩ := goodE_spec hE
 exact fits_ev f0 f1 f2 f3 f4 f5 secs hd hc h0 h1 h2 h3 h4 h5
theorem segA_text {x y mo d h mi s : Int} (M : Moment' x y mo d h mi s) (pos : Nat) (hp : pos < 7) (t : List UInt8) (ht : t.length < 1000) (h44 : 44 ∉ t) (hm : ∀ b ∈ t, b ≠ 76 ∧ b ≠ 87 ∧ b ≠ 35) (b : Bool)
  (hb : ∀ c, OffC c (posV y mo d h mi s pos) pos (B t) b false) : SegA x (B t) pos b false := by
 refine segA_parts M pos hp [t] (by simp) (by simpa using h44) (by show t.length < _; omega) (by simp) (fun p hp => by obtain rfl := List.mem_singleton.1 hp; exact ⟨by omega, hm⟩) b false (fun c => ?_)
 refine ⟨b, false, hb c, ?_⟩
 cases b with
 | true => rw [if_pos (Or.inl rfl)]; exact ⟨rfl, rfl⟩
 | false => rw [if_neg (by simp)]; exact ⟨rfl, rfl⟩
theorem segA_num {x y mo d h mi s : Int} (M : Moment' x y mo d h mi s) (pos : Nat) (hp : pos < 6) (n : Nat) (hn : n < 100) (lo : loB pos ≤ (n : Int)) (hi : (n : Int) ≤ hiB pos) (h5 : pos = 5 → n ≤ 6) : SegA x (B (decN n)) pos (decide ((n : Int) = posV y mo d h mi s pos)) false :=
 segA_text M pos (by omega) (decN n) (by have := decN_length n 1 (by omega); omega) (dec_no n 44 (by decide)) (fun b hb => ⟨fun e => dec_no n 76 (by decide) (e ▸ hb), fun e => dec_no n 87 (by decide) (e ▸ hb), fun e => dec_no n 35 (by decide) (e ▸ hb)⟩) _ (fun c => offC_num c n hn pos (by omega) _ lo hi h5)
theorem dueF_all (x : Int) (bs : Nat → Bool) : ∀ (l : List ByteArray) (p : Nat), (∀ (j : Nat) (hj : j < l.length), (IsStar l[j] ∧ bs (p + j) = true) ∨ (l[j] ≠ ⟨#[42]⟩ ∧ l[j] ≠ ⟨#[63]⟩ ∧ SegA x l[j] (p + j) (bs (p + j)) false)) → DueF x p l ((List.range l.length).all fun j => bs (p + j))
 | [], p, _ => rfl
 | s :: t, p, h => by
  have ht := dueF_all x bs t (p + 1) (fun j hj => by
   have := h (j + 1) (by simpa using hj)
   rw [show p + (j + 1) = p + 1 + j by omega] at this
   exact this)
  have hall : ((List.range (s :: t).length).all fun j => bs (p + j)) = (bs p && (List.range t.length).all fun j => bs (p + 1 + j)) := by
   rw [List.length_cons, List.range_succ_eq_map, List.all_cons, List.all_map]
   have e : ((fun j => bs (p + j)) ∘ Nat.succ) = fun j => bs (p + 1 + j) := by
    funext j
    show bs (p + (j + 1)) = _
    rw [show p + (j + 1) = p + 1 + j by omega]
   rw [e]; rfl
  rw [hall]
  rcases h 0 (by simp) with ⟨hs, hb⟩ | ⟨n1, n2, hA⟩
  ·refine .inl ⟨hs, ?_⟩
   rw [show bs p = true from hb, Bool.true_and]
   exact ht
  ·refine .inr ⟨n1, n2, bs p, hA, ?_⟩
   cases hb : bs p with
   | true => rw [if_pos rfl, Bool.true_and]; exact ht
   | false => rw [if_neg (by simp), Bool.false_and]
theorem dueF_segs (x : Int) (S : List (List UInt8)) (bs : Nat → Bool) (hA : ∀ (q : Nat) (hq : q < S.length), ((S[q] = [42] ∨ S[q] = [63]) ∧ bs q = true) ∨ (S[q] ≠ [42] ∧ S[q] ≠ [63] ∧ SegA x (B S[q]) q (bs q) false)) : DueF x 0 (S.map B) ((List.range S.length).all bs) := by
 have hr := dueF_all x bs (S.map B) 0 (fun q hq => by
  rw [List.getElem_map, Nat.zero_add]
  have hq' : q < S.length := by simpa using hq
  rcases hA q hq' with ⟨e | e, hb⟩ | ⟨e1, e2, h⟩
  ·exact .inl ⟨.inl (by rw [e]; rfl), hb⟩
  ·exact .inl ⟨.inr (by rw [e]; rfl), hb⟩
  ·exact .inr ⟨fun e => e1 (B_inj e), fun e => e2 (B_inj e), h⟩)
 rw [List.length_map] at hr
 simpa using hr
theorem good_dueF {Fs : List (List It)} {secs : Bool} (hE : goodE Fs secs = true) {y mo d h mi s : Int} (hd : DateOk y mo d) (hc : ClockOk h mi s) : DueF (extOf y mo d h mi s) 0 ((Fs.map fieldL).map B) (fitB Fs y mo d h mi s) := by
 have hF := goodE_fs hE
 have M : Moment' (extOf y mo d h mi s) y mo d h mi s := ⟨hd, hc, rfl⟩
 have hr := dueF_segs (extOf y mo d h mi s) (Fs.map fieldL) (fun q => hasF q (Fs.getD q []) (posV y mo d h mi s q)) (fun q hq => by
  have hqF : q < Fs.length := by simpa using hq
  have hq6 : q < 6 := by rw [← hF.1]; exact hqF
  have hg := hF.2 q hqF
  have hget : Fs.getD q [] = Fs[q] := by simp [List.getD, hqF]
  rw [List.getElem_map, hget]
  obtain ⟨v0, v1⟩ := posV_range hd hc q hq6
  by_cases e : fieldL Fs[q] = [42]
  ·exact .inl ⟨.inl e, star_has (field_star hg e) _ v0 v1⟩
  ·exact .inr ⟨e, field_no63 hg, segA_field M q hq6 _ hg⟩)
 rw [List.length_map, hF.1] at hr
 exact hr
theorem join_eq : ∀ L : List (List UInt8), Lib.join L [32] = joinL 32 L
 | [] => rfl
 | [x] => Lib.join_one x [32]
 | x :: y :: t => by
  have h := join_eq (y :: t)
  rw [Lib.join_cons] at h ⊢
  rw [joinL, ← h]
  simp [Lib.joinTail]
theorem keyT_B (L : List (List UInt8)) : keyT (L.map B) = B (joinL 32 L) := by
 unfold keyT
 rw [List.map_map, show ((fun x : ByteArray => x.data.toList) ∘ B) = id from by funext l; exact B_data l, List.map_id, join_eq]
 rfl
theorem key_inj {L M : List (List UInt8)} (hL : L ≠ [] ∧ ∀ p ∈ L, (32 : UInt8) ∉ p) (hM : M ≠ [] ∧ ∀ p ∈ M, (32 : UInt8) ∉ p) (h : keyT (L.map B) = keyT (M.map B)) : L = M := by
 rw [keyT_B, keyT_B] at h
 have h := B_inj h
 have a := splitL_join 32 L hL.1 hL.2
 rw [h, splitL_join 32 M hM.1 hM.2] at a
 exact a.symm
open Classical in
theorem pick_V (n : Nat) (x : Int) (L : Nat → List (List UInt8)) (rr : Nat → Bool) (hG : ∀ i, i < n → L i ≠ [] ∧ ∀ p ∈ L i, (32 : UInt8) ∉ p) (hD : ∀ i, i < n → DueF x 0 ((L i).map B) (rr i)) : ∃ V : ByteArray → Bool, ∀ i, i < n → V (keyT ((L i).map B)) = rr i := by
 refine ⟨fun key => decide (∃ i, i < n ∧ keyT ((L i).map B) = key ∧ rr i = true), fun i hi => ?_⟩
 cases hr : rr i with
 | true => exact decide_eq_true ⟨i, hi, rfl, hr⟩
 | false =>
  refine decide_eq_false fun ⟨j, hj, hk, hrj⟩ => ?_
  have e := key_inj (hG j hj) (hG i hi) hk
  have h1 := hD i hi
  have h2 := hD j hj
  rw [e] at h2
  have := DueF.one h1 h2
  rw [hr, hrj] at this
  cases this
theorem batch_f {y mo d h mi s : Int} (hd : DateOk y mo d) (hc : ClockOk h mi s) (T : List ByteArray) (h0 : 0 < T.length) (h9 : T.length ≤ 9) (L : Nat → List (List UInt8)) (rr : Nat → Bool) (hSeg : ∀ i, i < T.length → Ev (fun k => gronx_Segments.f k (T.getD i ByteArray.empty)) ((L i).map B, none))
  (hG : ∀ i, i < T.length → L i ≠ [] ∧ ∀ p ∈ L i, (32 : UInt8) ∉ p) (h7 : ∀ i, i < T.length → (L i).length ≤ 7) (hl : ∀ i, i < T.length → (joinL 32 (L i)).length ≤ 100000) (hD : ∀ i, i < T.length → DueF (extOf y mo d h mi s) 0 ((L i).map B) (rr i)) :
  impl_Batch.f T y mo d h mi s = some ((List.range T.length).map rr, T.map fun _ => true) := by
 obtain ⟨V, hV⟩ := pick_V T.length (extOf y mo d h mi s) L rr hG hD
 have hb := batch_w hd hc T h0 h9 V (fun i => (L i).map B) ⟨fun i hi => by
  obtain ⟨K, hK⟩ := hSeg i hi
  refine ⟨⟨K, hK K (Nat.le_refl _)⟩, ?_, ?_, ?_, ?_⟩
  ·rw [List.length_map]; exact List.length_pos_iff.2 (hG i hi).1
  ·rw [List.length_map]; exact h7 i hi
  ·rw [List.map_map, show ((fun x : ByteArray => x.data.toList) ∘ B) = id from by funext l; exact B_data l, List.map_id, join_eq]
   exact Nat.le_trans (hl i hi) (by decide)
  ·rw [hV i hi]; exact hD i hi⟩
 have hq : ∀ q (hq : q < T.length), dueT y mo d h mi s T[q] = rr q := fun q hq => by
  obtain ⟨K, hK⟩ := hSeg q hq
  have := hK K (Nat.le_refl _)
  rw [show T.getD q ByteArray.empty = T[q] by simp [List.getD, hq]] at this
  exact dueT_eq this (hD q hq)
 have e1 : (List.range T.length).map (fun q => V (keyT ((L q).map B))) = T.map (dueT y mo d h mi s) := by
  apply List.ext_getElem (by simp)
  intro q h1 h2
  have hqT : q < T.length := by simpa using h2
  simp only [List.getElem_map, List.getElem_range]
  rw [hV q hqT, hq q hqT]
 have e2 : (List.range T.length).map rr = T.map (dueT y mo d h mi s) := by
  apply List.ext_getElem (by simp)
  intro q h1 h2
  have hqT : q < T.length := by simpa using h2
  simp only [List.getElem_map, List.getElem_range]
  rw [hq q hqT]
 rw [e1] at hb
 rw [e2]
 exact BatchC.eq hb
theorem stars5_segs : Ev (fun k => gronx_Segments.f k (⟨#[42, 32, 42, 32, 42, 32, 42, 32, 42]⟩ : ByteArray)) ([[48], [42], [42], [42], [42], [42]].map B, none) := by
 have hs := segments_ev [[42], [42], [42], [42], [42]] (by
  intro p hp
  simp only [List.mem_cons, List.not_mem_nil, or_false, or_self] at hp
  subst hp
  exact ⟨by simp, by simp⟩) (by simp [joinL]) (by simp) (by simp) (by intro h; simp at h)
 have h5 : ([[42], [42], [42], [42], [42]] : List (List UInt8)).length = 5 := rfl
 rw [if_pos (Or.inl h5)] at hs
 exact hs
theorem stars5_dueF {y mo d h mi s : Int} (hd : DateOk y mo d) (hc : ClockOk h mi s) : DueF (extOf y mo d h mi s) 0 ([[48], [42], [42], [42], [42], [42]].map B) (decide (0 = s)) := by
 have M : Moment' (extOf y mo d h mi s) y mo d h mi s := ⟨hd, hc, rfl⟩
 have n0 := segA_num M 0 (by decide) 0 (by decide) (by decide) (by decide) (by decide)
 rw [show decN 0 = [48] from decN_lt 0 (by decide)] at n0
 have hr := dueF_segs (extOf y mo d h mi s) [[48], [42], [42], [42], [42], [42]] (fun q => if q = 0 then decide (0 = s) else true) (fun q hq => by
  match q, hq with
  | 0, _ => exact .inr ⟨show ([48] : List UInt8) ≠ [42] from by decide, show ([48] : List UInt8) ≠ [63] from by decide, n0⟩
  | 1, _ => exact .inl ⟨.inl rfl, rfl⟩
  | 2, _ => exact .inl ⟨.inl rfl, rfl⟩
  | 3, _ => exact .inl ⟨.inl rfl, rfl⟩
  | 4, _ => exact .inl ⟨.inl rfl, rfl⟩
  | 5, _ => exact .inl ⟨.inl rfl, rfl⟩)
 have e : ((List.range ([[48], [42], [42], [42], [42], [42]] : List (List UInt8)).length).all fun q => if q = 0 then decide (0 = s) else true) = decide (0 = s) := by
  simp [List.range_succ]
 rw [e] at hr
 exact hr
theorem rdE_at (l : List S24) (j : Nat) (h : j < l.length) : rd_T24 l (j : Int) = l[j] := by simp [rd_T24, h]
theorem rdX_at (l : List S30) (j : Nat) (h : j < l.length) : rd_T30 l (j : Int) = l[j] := by simp [rd_T30, h]
def fits3B (raw : List S24) : Bool := decide (raw.length ≤ 2147483647) && raw.all fun e => fitsB e.f0
theorem drop_at {α : Type} {l : List α} {j : Nat} {x : α} {t : List α} (hj : l.drop j = x :: t) : ∃ h : j < l.length, l[j] = x ∧ l.drop (j + 1) = t := by
 have hlt : j < l.length := by
  rcases Nat.lt_or_ge j l.length with h | h
  ·exact h
  ·rw [List.drop_eq_nil_of_le h] at hj; cases hj
 refine ⟨hlt, ?_, by rw [← List.drop_drop, hj]; rfl⟩
 have := List.drop_eq_getElem_cons hlt
 rw [hj] at this
 exact (List.cons.inj this).1.symm
theorem fits3_from (raw : List S24) (hl : raw.length ≤ 2147483647) :
  ∀ (rest : List S24) (j : Nat), raw.drop j = rest → j ≤ raw.length → Ev (fun k => laws_zzFits3.l0 k raw (raw.length : Int) (j : Int)) (rest.all fun e => fitsB e.f0) := by
 intro rest
 induction rest with
 | nil =>
  intro j hj hjl
  have hlen : raw.length ≤ j := List.drop_eq_nil_iff.1 hj
  refine Ev.done fun k => ?_
  simp only [laws_zzFits3.l0]
  rw [if_neg (by omega)]
  rfl
 | cons x t ih =>
  intro j hj hjl
  obtain ⟨hlt, hx, ht⟩ := drop_at hj
  have hrd := rdE_at raw j hlt
  rw [hx] at hrd
  have hrec := ih (j + 1) ht (by omega)
  rw [List.all_cons]
  refine Ev.succ ?_
  simp only [laws_zzFits3.l0, hrd]
  refine Ev.congr (fun k => (if_pos (by omega)).trans ((if_pos (by omega)).trans (if_pos (by omega)))) (Ev.bind (fits1_ev x.f0 x.f1) ?_)
  rw [wrap64_nat j (by omega)]
  cases fitsB x.f0 with
  | true => exact Ev.congr (fun k => if_pos rfl) (by simpa using hrec)
  | false => exact Ev.congr (fun k => if_neg (by simp)) (Ev.now false)
theorem fits3_ev (raw : List S24) : Ev (fun k => laws_zzFits3.f k raw) (fits3B raw) := by
 unfold fits3B laws_zzFits3.f
 by_cases h : raw.length ≤ 2147483647
 ·rw [decide_eq_true h, Bool.true_and]
  exact Ev.congr (fun k => if_neg (by omega)) (fits3_from raw h raw 0 rfl (Nat.zero_le _))
 ·rw [decide_eq_false h, Bool.false_and]
  exact Ev.congr (fun k => if_pos (by omega)) (Ev.now false)
def cvE (e : S24) : S30 := ⟨cvs e.f0, e.f1⟩
theorem batch_l0 (raw : List S24) (hl : raw.length ≤ 2147483647) (hf : ∀ e ∈ raw, fitsB e.f0 = true) (y mo d h mi s : Int) {r : Bool}
  (hend : Ev (fun k => laws_FnBatch.l0 k (raw.map cvE) raw (raw.length : Int) (raw.length : Int) y mo d h mi s) r) :
  ∀ (rest : List S24) (j : Nat), raw.drop j = rest → j ≤ raw.length → Ev (fun k => laws_FnBatch.l0 k ((raw.take j).map cvE) raw (raw.length : Int) (j : Int) y mo d h mi s) r := by
 intro rest
 induction rest with
 | nil =>
  intro j hj hjl
  have hlen : raw.length ≤ j := List.drop_eq_nil_iff.1 hj
  obtain rfl : j = raw.length := by omega
  rw [List.take_length]
  exact hend
 | cons x t ih =>
  intro j hj hjl
  obtain ⟨hlt, hx, ht⟩ := drop_at hj
  have hrd := rdE_at raw j hlt
  rw [hx] at hrd
  have hrec := ih (j + 1) ht (by omega)
  have hfx := hf x (by rw [← hx]; exact List.getElem_mem hlt)
  rw [List.take_succ_eq_append_getElem hlt, hx, List.map_append] at hrec
  refine Ev.succ ?_
  simp only [laws_FnBatch.l0, hrd]
  refine Ev.congr (fun k => (if_pos (by omega)).trans ((if_pos (by omega)).trans (if_pos (by omega)))) (Ev.bind (expr_ev x.f0 x.f1 hfx) ?_)
  rw [wrap64_nat j (by omega)]
  exact Ev.congr (fun k => if_pos (by rw [List.length_map, List.length_take]; omega)) hrec
theorem batch_l1 (E : List S30) (h8 : E.length ≤ 8) (hl : ∀ e ∈ E, ∀ l ∈ e.f0, l.length < 4611686018427387904) (y mo d h mi s : Int)
  (hend : (∀ e ∈ E, goodE e.f0 e.f1 = true) → Ev (fun k => laws_FnBatch.l1 k E (E.map fun e => B (textL e.f0 e.f1)) E (E.length : Int) (E.length : Int) y mo d h mi s) true) :
  ∀ (rest : List S30) (j : Nat), E.drop j = rest → j ≤ E.length → (∀ e ∈ E.take j, goodE e.f0 e.f1 = true) → Ev (fun k => laws_FnBatch.l1 k E ((E.take j).map fun e => B (textL e.f0 e.f1)) E (E.length : Int) (j : Int) y mo d h mi s) true := by
 intro rest
 induction rest with
 | nil =>
  intro j hj hjl hg
  have hlen : E.length ≤ j := List.drop_eq_nil_iff.1 hj
  obtain rfl : j = E.length := by omega
  rw [List.take_length] at hg ⊢
  exact hend hg
 | cons x t ih =>
  intro j hj hjl hg
  obtain ⟨hlt, hx, ht⟩ := drop_at hj
  have hrd := rdX_at E j hlt
  rw [hx] at hrd
  have hmem : x ∈ E := by rw [← hx]; exact List.getElem_mem hlt
  refine Ev.succ ?_
  simp only [laws_FnBatch.l1, hrd]
  refine Ev.congr (fun k => (if_pos (by omega)).trans ((if_pos (by omega)).trans (if_pos (by omega)))) (Ev.bind (exprGood_ev x.f0 x.f1 (hl x hmem)) ?_)
  rw [wrap64_nat j (by omega)]
  cases hgx : goodE x.f0 x.f1 with
  | false => exact Ev.congr (fun k => if_neg (by simp)) (Ev.now true)
  | true =>
   have hrec := ih (j + 1) ht (by omega) (fun e he => by
    rw [List.take_succ_eq_append_getElem hlt, hx] at he
    rcases List.mem_append.1 he with h | h
    ·exact hg e h
    ·obtain rfl := List.mem_singleton.1 h
     exact hgx)
   rw [List.take_succ_eq_append_getElem hlt, hx, List.map_append] at hrec
   refine Ev.congr (fun k => if_pos rfl) (Ev.bind (text_ev x.f0 x.f1 (goodE_fs hgx)) ?_)
   exact Ev.congr (fun k => if_pos (by rw [List.length_map, List.length_take]; omega)) hrec
theorem batch_l2 (E : List S30) (h8 : E.length ≤ 8) (hg : ∀ e ∈ E, goodE e.f0 e.f1 = true) {y mo d h mi s : Int} (hd : DateOk y mo d) (hc : ClockOk h mi s) (due fine : List Bool) (hdl : due.length = E.length + 1) (hfl : fine.length = E.length + 1)
  (hdue : ∀ q (hq : q < E.length), rdOf false due (q : Int) = fitB E[q].f0 y mo d h mi s) (hfine : ∀ q, q < E.length → rdOf false fine (q : Int) = true) :
  ∀ (rest : List S30) (j : Nat), E.drop j = rest → j ≤ E.length → Ev (fun k => laws_FnBatch.l2 k due fine E (E.length : Int) (j : Int) y mo d h mi s) true := by
 intro rest
 induction rest with
 | nil =>
  intro j hj hjl
  have hlen : E.length ≤ j := List.drop_eq_nil_iff.1 hj
  refine Ev.done fun k => ?_
  simp only [laws_FnBatch.l2]
  rw [if_neg (by omega)]
 | cons x t ih =>
  intro j hj hjl
  obtain ⟨hlt, hx, ht⟩ := drop_at hj
  have hrd := rdX_at E j hlt
  rw [hx] at hrd
  have hmem : x ∈ E := by rw [← hx]; exact List.getElem_mem hlt
  have hrec := ih (j + 1) ht (by omega)
  have e1 := hdue j hlt
  rw [hx] at e1
  refine Ev.succ ?_
  simp only [laws_FnBatch.l2, hrd, e1, hfine j hlt, laws_moment.f, Option.bind_some]
  refine Ev.congr (fun k => (if_pos (by omega)).trans ((if_pos (by omega)).trans ((if_pos (by omega)).trans ((if_pos (by omega)).trans ((if_pos trivial).trans (if_pos (by omega))))))) (Ev.bind (fitsE_ev (hg x hmem) hd hc) ?_)
  rw [wrap64_nat j (by omega)]
  exact Ev.congr (fun k => if_neg (by simp)) hrec
def star5 : ByteArray := ⟨#[42, 32, 42, 32, 42, 32, 42, 32, 42]⟩
def textsE (E : List S30) : List ByteArray := (E.map fun e => B (textL e.f0 e.f1)) ++ [star5]
def segsE (E : List S30) (i : Nat) : List (List UInt8) := match E[i]? with
 | some e => e.f0.map fieldL
 | none => [[48], [42], [42], [42], [42], [42]]
def dueE (E : List S30) (y mo d h mi s : Int) (i : Nat) : Bool := match E[i]? with
 | some e => fitB e.f0 y mo d h mi s
 | none => decide (0 = s)
theorem textsE_length (E : List S30) : (textsE E).length = E.length + 1 := by simp [textsE]
theorem textsE_at (E : List S30) (i : Nat) : (textsE E).getD i ByteArray.empty = match E[i]? with
 | some e => B (textL e.f0 e.f1)
 | none => if i = E.length then star5 else ByteArray.empty := by
 unfold textsE
 by_cases h : i < E.length
 ·simp only [List.getD]
  rw [List.getElem?_append_left (by simpa using h), List.getElem?_map, List.getElem?_eq_getElem h]
  rfl
 ·rw [List.getElem?_eq_none (by omega)]
  by_cases e : i = E.length
  ·subst e; simp [List.getD]
  ·have h' : (List.map (fun e => B (textL e.f0 e.f1)) E ++ [star5]).length ≤ i := by simp; omega
   simp only [List.getD, List.getElem?_eq_none h', Option.getD_none, if_neg e]
theorem batch_texts (E : List S30) (h8 : E.length ≤ 8) (hg : ∀ e ∈ E, goodE e.f0 e.f1 = true) {y mo d h mi s : Int} (hd : DateOk y mo d) (hc : ClockOk h mi s) : impl_Batch.f (textsE E) y mo d h mi s = some ((List.range (E.length + 1)).map (dueE E y mo d h mi s), (textsE E).map fun _ => true) := by
 have key : ∀ i, i < (textsE E).length → (∃ e, E[i]? = some e ∧ goodE e.f0 e.f1 = true) ∨ (E[i]? = none ∧ i = E.length) := fun i hi => by
  rw [textsE_length] at hi
  by_cases h : i < E.length
  ·exact .inl ⟨E[i], List.getElem?_eq_getElem h, hg _ (List.getElem_mem h)⟩
  ·exact .inr ⟨List.getElem?_eq_none (by omega), by omega⟩
 have hb := batch_f hd hc (textsE E) (by rw [textsE_length]; omega) (by rw [textsE_length]; omega) (segsE E) (dueE E y mo d h mi s)
  (fun i hi => by
   rw [textsE_at]
   unfold segsE
   rcases key i hi with ⟨e, he, hge⟩ | ⟨he, hi'⟩
   ·rw [he]
    have := exprSegments_ev hge
    simp only
    rw [List.map_map]
    exact this
   ·rw [he]
    simp only
    rw [if_pos hi']
    exact stars5_segs)
  (fun i hi => by
   unfold segsE
   rcases key i hi with ⟨e, he, hge⟩ | ⟨he, hi'⟩
   ·rw [he]
    have hF := goodE_fs hge
    refine ⟨(fun e' => by have h6 := congrArg List.length e'; simp only [List.length_map, hF.1, List.length_nil] at h6; omega), fun p hp h32 => ?_⟩
    obtain ⟨f, hf, rfl⟩ := List.mem_map.1 hp
    obtain ⟨q, hq, e'⟩ := List.mem_iff_getElem.1 hf
    have hgq := hF.2 q hq
    rw [e'] at hgq
    have := (field_part hgq).2 32 h32
    simp at this
   ·rw [he]
    exact ⟨by simp, by simp⟩)
  (fun i hi => by
   unfold segsE
   rcases key i hi with ⟨e, he, hge⟩ | ⟨he, hi'⟩
   ·rw [he]
    simp only
    rw [List.length_map, (goodE_fs hge).1]; decide
   ·rw [he]; simp)
  (fun i hi => by
   unfold segsE
   rcases key i hi with ⟨e, he, hge⟩ | ⟨he, hi'⟩
   ·rw [he]
    have hF := goodE_fs hge
    have hj := joinL_length 32 (e.f0.map fieldL) 54 (fun p hp => by
     obtain ⟨f, hf, rfl⟩ := List.mem_map.1 hp
     obtain ⟨q, hq, e'⟩ := List.mem_iff_getElem.1 hf
     have hgq := hF.2 q hq
     rw [e'] at hgq
     exact fieldL_length hgq)
    rw [List.length_map, hF.1] at hj
    simp only
    omega
   ·rw [he]; simp [joinL])
  (fun i hi => by
   unfold segsE dueE
   rcases key i hi with ⟨e, he, hge⟩ | ⟨he, hi'⟩
   ·rw [he]; exact good_dueF hge hd hc
   ·rw [he]; exact stars5_dueF hd hc)
 rw [textsE_length] at hb
 exact hb
theorem batch_last (E : List S30) (y mo d h mi s : Int) : (((List.range (E.length + 1)).map (dueE E y mo d h mi s)).length = E.length + 1) ∧ (((textsE E).map fun _ => true).length = E.length + 1) ∧ (∀ q, q < E.length + 1 → rdOf false ((List.range (E.length + 1)).map (dueE E y mo d h mi s)) (q : Int) = dueE E y mo d h mi s q) ∧ (∀ q, q < E.length → rdOf false ((textsE E).map fun _ => true) (q : Int) = true) := by
 refine ⟨by simp, by rw [List.length_map, textsE_length], fun q hq => by simp [rdOf, hq], fun q hq => ?_⟩
 have hq' : q < (textsE E).length := by rw [textsE_length]; omega
 simp [rdOf, hq']
theorem batch_j3 (E : List S30) (h8 : E.length ≤ 8) (hg : ∀ e ∈ E, goodE e.f0 e.f1 = true) {y mo d h mi s : Int} (hd : DateOk y mo d) (hc : ClockOk h mi s) (due fine : List Bool) (dl : due.length = E.length + 1) (fl : fine.length = E.length + 1)
  (hdue : ∀ q (hq : q < E.length), rdOf false due (q : Int) = fitB E[q].f0 y mo d h mi s) (hfine : ∀ q, q < E.length → rdOf false fine (q : Int) = true) : Ev (fun k => laws_FnBatch.j3 k E due fine false y mo d h mi s) true := by
 have hl := batch_l2 E h8 hg hd hc due fine dl fl hdue hfine E 0 rfl (Nat.zero_le _)
 refine Ev.succ ?_
 simp only [laws_FnBatch.j3]
 exact Ev.congr (fun k => if_neg (by simp)) hl
theorem batch_e0 (s : Int) : (decide (0 = s) != (s == 0)) = false := by
 by_cases e : s = 0
 ·subst e; rfl
 ·rw [decide_eq_false (fun e' => e e'.symm), beq_eq_false_iff_ne.mpr e]; rfl
theorem batch_eq (E : List S30) (h8 : E.length ≤ 8) (y mo d h mi s : Int) (due fine : List Bool) (dl : due.length = E.length + 1) (fl : fine.length = E.length + 1) (hlast : rdOf false due (E.length : Int) = decide (0 = s))
  (T : List ByteArray) (hT : T.length = E.length) (hb : impl_Batch.f (T ++ [(⟨#[42, 32, 42, 32, 42, 32, 42, 32, 42]⟩ : ByteArray)]) y mo d h mi s = some (due, fine)) (k : Nat) : laws_FnBatch.l1 (k + 1) E T E (E.length : Int) (E.length : Int) y mo d h mi s = laws_FnBatch.j3 k E due fine false y mo d h mi s := by
 have c0 : ¬ (E.length : Int) < (E.length : Int) := Int.lt_irrefl _
 have c1 : T.length < 8796093022208 := by omega
 have w1 : wrap64 ((E.length : Int) + 1) = ((E.length + 1 : Nat) : Int) := wrap64_nat E.length (by omega)
 have c2 : (due.length : Int) = wrap64 ((E.length : Int) + 1) := by rw [w1, dl]
 have c3 : (fine.length : Int) = (due.length : Int) := by rw [dl, fl]
 have c4 : (0 : Int) ≤ (E.length : Int) := by omega
 have c5 : (E.length : Int) < (due.length : Int) := by omega
 have e0 := batch_e0 s
 rw [← hlast] at e0
 rw [laws_FnBatch.l1, if_neg c0, if_pos c1, hb]
 rw [Option.bind_some]
 exact (if_pos c2).trans ((if_pos c3).trans ((if_pos c4).trans ((if_pos c5).trans (by rw [e0]))))
theorem batch_call (E : List S30) (h8 : E.length ≤ 8) (y mo d h mi s : Int) (due fine : List Bool) (dl : due.length = E.length + 1) (fl : fine.length = E.length + 1) (hlast : rdOf false due (E.length : Int) = decide (0 = s))
  (h3 : Ev (fun k => laws_FnBatch.j3 k E due fine false y mo d h mi s) true) (T : List ByteArray) (hT : T.length = E.length) (hb : impl_Batch.f (T ++ [(⟨#[42, 32, 42, 32, 42, 32, 42, 32, 42]⟩ : ByteArray)]) y mo d h mi s = some (due, fine)) : Ev (fun k => laws_FnBatch.l1 k E T E (E.length : Int) (E.length : Int) y mo d h mi s) true := by
 exact Ev.succ (Ev.congr (batch_eq E h8 y mo d h mi s due fine dl fl hlast T hT hb) h3)
theorem batch_end (E : List S30) (hlen : ∀ e ∈ E, ∀ l ∈ e.f0, l.length < 4611686018427387904) (h8 : E.length ≤ 8) {y mo d h mi s : Int} (hd : DateOk y mo d) (hc : ClockOk h mi s) : Ev (fun k => laws_FnBatch.l1 k E ([] : List ByteArray) E (E.length : Int) 0 y mo d h mi s) true := by
 have key := batch_l1 E h8 hlen y mo d h mi s (fun hg => by
  obtain ⟨dl, fl, hat, hfine⟩ := batch_last E y mo d h mi s
  refine batch_call E h8 y mo d h mi s _ _ dl fl ?_ (batch_j3 E h8 hg hd hc _ _ dl fl (fun q hq => ?_) hfine) _ (List.length_map ..) (batch_texts E h8 hg hd hc)
  ·rw [hat E.length (Nat.lt_succ_self _)]
   unfold dueE
   rw [List.getElem?_eq_none (Nat.le_refl _)]
  ·rw [hat q (by omega)]
   unfold dueE
   rw [List.getElem?_eq_getElem hq]) E 0 rfl (Nat.zero_le _) (by simp)
 exact key
theorem fnBatch_pure (raw : List S24) (y mo d h mi s : Int) : ∃ k, laws_FnBatch.f k raw y mo d h mi s = some true := by
 refine Ev.rounds (g := fun k => laws_FnBatch.f k raw y mo d h mi s) ?_
 unfold laws_FnBatch.f
 refine Ev.bind (fits3_ev raw) ?_
 cases hf : fits3B raw with
 | false => exact Ev.congr (fun k => if_neg (by simp)) (Ev.now true)
 | true =>
  refine Ev.congr (fun k => if_pos rfl) ?_
  unfold fits3B at hf
  simp only [Bool.and_eq_true, decide_eq_true_eq, List.all_eq_true] at hf
  obtain ⟨hl, hfe⟩ := hf
  refine batch_l0 raw hl hfe y mo d h mi s ?_ raw 0 rfl (Nat.zero_le _)
  have hlen : ∀ e ∈ raw.map cvE, ∀ l ∈ e.f0, l.length < 4611686018427387904 := fun e he => by
   obtain ⟨x, hx, rfl⟩ := List.mem_map.1 he
   exact cvs_len (hfe x hx)
  have hT : ∀ E, Ev (fun k => laws_FnBatch.j1 k E true y mo d h mi s) true := fun E => Ev.done fun k => by simp only [laws_FnBatch.j1]; rw [if_pos trivial]
  refine Ev.succ ?_
  simp only [laws_FnBatch.l0]
  refine Ev.congr (fun k => if_neg (by omega)) ?_
  simp only [laws_moment.f, Option.bind_some, goodM_eq]
  generalize raw.map cvE = E at hlen
  cases hM : goodM y mo d h mi s with
  | false => exact Ev.congr (fun k => if_neg (by simp)) (hT E)
  | true =>
   obtain ⟨hd, hc⟩ := goodM_spec hM
   refine Ev.congr (fun k => if_pos rfl) ?_
   by_cases h8 : (E.length : Int) > 8
   ·rw [decide_eq_true h8]; exact hT E
   rw [decide_eq_false h8]
   refine Ev.succ ?_
   simp only [laws_FnBatch.j1, Bool.false_eq_true, if_false]
   exact batch_end E hlen (by omega) hd hc
end Go.Proofs.YtemgofomhjabpaaGreatDoor.Core
namespace Go.Proofs.YtemgofomhjabpaaGreatDoor.Core
open Go.RowKit Go.Proofs.YtemgofomhjabpaaGreatDoorW.PrintWords Go.ChangeShapes Go.WideShapes Go.Deep
set_option maxRecDepth 100000
theorem rows_list {α : Type} {Q : Nat → α → Prop} (n : Nat) (h : ∀ i, i < n → ∃ x, Q i x) : ∃ l : List α, l.length = n ∧ ∀ j p, l[j]? = some p → Q j p := by
 induction n with
 | zero => exact ⟨[], rfl, fun j p hj => by simp at hj⟩
 | succ n ih =>
  obtain ⟨l, hl, hq⟩ := ih (fun i hi => h i (by omega))
  obtain ⟨x, hx⟩ := h n (by omega)
  refine ⟨l ++ [x], by simp [hl], fun j p hj => ?_⟩
  rcases Nat.lt_or_ge j l.length with h1 | h1
  ·rw [List.getElem?_append_left h1] at hj
   exact hq j p hj
  ·rw [List.getElem?_append_right h1] at hj
   have h2 : j - l.length = 0 := by
    rcases Nat.eq_zero_or_pos (j - l.length) with h3 | h3
    ·exact h3
    ·rw [List.getElem?_eq_none (by simp; omega)] at hj; cases hj
   rw [h2] at hj
   obtain rfl : x = p := by simpa using hj
   obtain rfl : j = n := by omega
   exact hx
section
variable {H : Type} {enc : TypeId × Value → H} {P : Program} {W : World} {spare : Nat → Bool} {held : Bool}
theorem C_of_trod {α : Type} (d : Kd α) {t e : TypeId} (ht : P.underlying t = some (.slice e)) (hC : P.cellsOf e = d.sz)
  (rd : ∀ (n : Nat) (cs : List Value) y, cs.length = P.cellsOf e → DataW.trod enc P W 0 spare held n e cs = some y → ∃ x, d.K W x cs)
  {n : Nat} {va : Value} {y : DataW H × List MemPlace} (h : DataW.trod enc P W 0 spare held n t [va] = some y) :
  ∃ (A : Option Addr) (c : Nat) (l : List α), va = .slice A l.length c ∧ l.length ≤ c ∧ Kd.C d W A l.length l := by
 rcases open_slice ht h with ⟨h0, _⟩ | ⟨a, len, cap, m, n', D, Pl, hcs, _, hl, hm, hmm, _, hi⟩
 ·obtain rfl : va = .slice none 0 0 := by simpa using h0
  exact ⟨none, 0, [], rfl, Nat.le_refl _, rfl, by simp, fun h => absurd h (by simp)⟩
 ·obtain rfl : va = .slice (some a) len cap := by simpa using hcs
  have hlm : len ≤ m := by rw [hmm]; split <;> omega
  obtain ⟨l, hll, hq⟩ := rows_list (Q := fun i x => ∃ c, c.length = d.sz ∧ d.K W x c ∧ ∀ j u, c[j]? = some u → W.cell? (a.add (i * d.sz + j)) = some u) len (fun i hi' => by
   obtain ⟨cs', hc, htr⟩ := hi i (by omega)
   obtain ⟨_, hcl, hat⟩ := World.cells?_some hc
   obtain ⟨x, hx⟩ := rd _ _ _ hcl htr
   refine ⟨x, cs', by rw [hcl, hC], hx, fun j u hu => ?_⟩
   have hj : j < cs'.length := (List.getElem?_eq_some_iff.1 hu).1
   have := hat j (by omega)
   rw [Go.Deep.add_add, hC] at this
   rw [this, hu])
  subst hll
  refine ⟨some a, cap, l, rfl, hl, rfl, ?_, fun _ => ⟨a, rfl, fun j p hj => hq j p hj⟩⟩
  unfold maxLen at hm
  omega
end
section
variable {H : Type} {enc : TypeId × Value → H} {W : World} {spare : Nat → Bool} {held : Bool}
theorem cells_item : Tryz.prog.cellsOf 69 = 4 := by kernel_rfl
theorem read_item (n : Nat) (cs : List Value) (y : DataW H × List MemPlace) (hl : cs.length = Tryz.prog.cellsOf 69) (h : DataW.trod enc Tryz.prog W 0 spare held n 69 cs = some y) : ∃ x, k69.K W x cs := by
 rw [cells_item] at hl
 obtain ⟨y0, y1, y2, y3, m, _, _, h0, h1, h2, h3⟩ := Go.Joins.trod_struct4 Tryz.underlying69 h
 match cs, hl with
 | [c0, c1, c2, c3], _ =>
  rw [show Tryz.prog.cellsOf 4 = 1 by kernel_rfl] at h0
  rw [show Tryz.prog.cellsOf 3 = 1 by kernel_rfl] at h1 h2 h3
  obtain ⟨b, hb, _⟩ := DataW.trod_bool Tryz.underlying4 h0
  obtain ⟨i1, e1, _⟩ := DataW.trod_int Tryz.underlying3 h1
  obtain ⟨i2, e2, _⟩ := DataW.trod_int Tryz.underlying3 h2
  obtain ⟨i3, e3, _⟩ := DataW.trod_int Tryz.underlying3 h3
  obtain rfl : c0 = .bool b := by simpa using hb
  obtain rfl : c1 = .int .i64 i1 := by simpa using e1
  obtain rfl : c2 = .int .i64 i2 := by simpa using e2
  obtain rfl : c3 = .int .i64 i3 := by simpa using e3
  exact ⟨⟨b, i1, i2, i3⟩, k69_mk W ⟨b, i1, i2, i3⟩⟩
theorem read_items (n : Nat) (cs : List Value) (y : DataW H × List MemPlace) (hl : cs.length = Tryz.prog.cellsOf 68) (h : DataW.trod enc Tryz.prog W 0 spare held n 68 cs = some y) : ∃ x, (Kd.slice 69 k69).K W x cs := by
 rw [show Tryz.prog.cellsOf 68 = 1 by kernel_rfl] at hl
 match cs, hl with
 | [c], _ =>
  obtain ⟨A, cap, l, rfl, hlc, hC⟩ := C_of_trod k69 Tryz.underlying68 cells_item read_item h
  exact ⟨l, A, cap, rfl, hlc, hC⟩
theorem read_fields {n : Nat} {va : Value} {y : DataW H × List MemPlace} (h : DataW.trod enc Tryz.prog W 0 spare held n 22 [va] = some y) :
  ∃ (A : Option Addr) (c : Nat) (l : List (List S69)), va = .slice A l.length c ∧ l.length ≤ c ∧ Kd.C (Kd.slice 69 k69) W A l.length l :=
 C_of_trod (Kd.slice 69 k69) Tryz.underlying22 (by kernel_rfl) read_items h
end
section
variable {H : Type} {enc : TypeId × Value → H} {P : Program} {w : World} {base : Nat} {spare : Nat → Bool} {held : Bool}
theorem list6 {α : Type} {l : List α} (h : l.length = 6) : ∃ c0 c1 c2 c3 c4 c5, l = [c0, c1, c2, c3, c4, c5] := by
 match l, h with
 | [c0, c1, c2, c3, c4, c5], _ => exact ⟨c0, c1, c2, c3, c4, c5, rfl⟩
theorem trod_struct6 {t : TypeId} {f0 f1 f2 f3 f4 f5 : Field} {fuel : Nat} {cs : List Value} {x : DataW H × List MemPlace} (ht : P.underlying t = some (.struct #[f0, f1, f2, f3, f4, f5])) (h : DataW.trod enc P w base spare held fuel t cs = some x) :
  ∃ y0 y1 y2 y3 y4 y5 n, DataW.trod enc P w base spare held n f0.type ((cs.drop f0.offset).take (P.cellsOf f0.type)) = some y0 ∧ DataW.trod enc P w base spare held n f1.type ((cs.drop f1.offset).take (P.cellsOf f1.type)) = some y1 ∧ DataW.trod enc P w base spare held n f2.type ((cs.drop f2.offset).take (P.cellsOf f2.type)) = some y2 ∧
   DataW.trod enc P w base spare held n f3.type ((cs.drop f3.offset).take (P.cellsOf f3.type)) = some y3 ∧ DataW.trod enc P w base spare held n f4.type ((cs.drop f4.offset).take (P.cellsOf f4.type)) = some y4 ∧ DataW.trod enc P w base spare held n f5.type ((cs.drop f5.offset).take (P.cellsOf f5.type)) = some y5 := by
 obtain ⟨xs, n, _, rfl, hl, hlen, hf⟩ := DataW.trod_struct ht h
 obtain ⟨y0, y1, y2, y3, y4, y5, rfl⟩ := list6 (show xs.length = 6 from hlen)
 exact ⟨y0, y1, y2, y3, y4, y5, n, by simpa using hf 0 f0 rfl, by simpa using hf 1 f1 rfl, by simpa using hf 2 f2 rfl, by simpa using hf 3 f3 rfl, by simpa using hf 4 f4 rfl, by simpa using hf 5 f5 rfl⟩
end
section
variable {H : Type} {enc : TypeId × Value → H} {W : World} {spare : Nat → Bool} {held : Bool}
theorem read_moment {v : Value} {d : DataW H} {p : List MemPlace} {r : Reach} {b0 : Nat} (hv : Value.okWide Tryz.prog W r b0 26 v) (h : DataW.Trod enc Tryz.prog W 0 spare held 26 v d p) :
  ∃ y mo d h mi s : Int, v = .agg #[.int .i64 y, .int .i64 mo, .int .i64 d, .int .i64 h, .int .i64 mi, .int .i64 s] := by
 obtain ⟨cs, rfl, hsz⟩ := okWide_struct Tryz.underlying26 hv
 obtain ⟨cs⟩ := cs
 obtain ⟨fuel, hf⟩ := h
 have hl : cs.length = 6 := hsz.trans (by kernel_rfl)
 obtain ⟨y0, y1, y2, y3, y4, y5, m, h0, h1, h2, h3, h4, h5⟩ := trod_struct6 Tryz.underlying26 hf
 obtain ⟨c0, c1, c2, c3, c4, c5, rfl⟩ := list6 hl
 rw [show Tryz.prog.cellsOf 3 = 1 by kernel_rfl] at h0 h1 h2 h3 h4 h5
 obtain ⟨i0, e0, _⟩ := DataW.trod_int Tryz.underlying3 h0
 obtain ⟨i1, e1, _⟩ := DataW.trod_int Tryz.underlying3 h1
 obtain ⟨i2, e2, _⟩ := DataW.trod_int Tryz.underlying3 h2
 obtain ⟨i3, e3, _⟩ := DataW.trod_int Tryz.underlying3 h3
 obtain ⟨i4, e4, _⟩ := DataW.trod_int Tryz.underlying3 h4
 obtain ⟨i5, e5, _⟩ := DataW.trod_int Tryz.underlying3 h5
 obtain rfl : c0 = .int .i64 i0 := by simpa [Value.cells] using e0
 obtain rfl : c1 = .int .i64 i1 := by simpa [Value.cells] using e1
 obtain rfl : c2 = .int .i64 i2 := by simpa [Value.cells] using e2
 obtain rfl : c3 = .int .i64 i3 := by simpa [Value.cells] using e3
 obtain rfl : c4 = .int .i64 i4 := by simpa [Value.cells] using e4
 obtain rfl : c5 = .int .i64 i5 := by simpa [Value.cells] using e5
 exact ⟨i0, i1, i2, i3, i4, i5, rfl⟩
end
section
variable {H : Type} {enc : TypeId × Value → H} {W : World} {spare : Nat → Bool} {held : Bool}
theorem read_exprE (n : Nat) (cs : List Value) (y : DataW H × List MemPlace) (hl : cs.length = Tryz.prog.cellsOf 24) (h : DataW.trod enc Tryz.prog W 0 spare held n 24 cs = some y) : ∃ x, k24.K W x cs := by
 rw [show Tryz.prog.cellsOf 24 = 2 by kernel_rfl] at hl
 obtain ⟨y0, y1, m, _, _, h0, h1⟩ := trod_struct2 Tryz.underlying24 h
 match cs, hl with
 | [c0, c1], _ =>
  rw [show Tryz.prog.cellsOf 22 = 1 by kernel_rfl] at h0
  rw [show Tryz.prog.cellsOf 4 = 1 by kernel_rfl] at h1
  obtain ⟨A, cap, l, e, hlc, hC⟩ := read_fields (va := c0) (by simpa using h0)
  obtain ⟨b, hb, _⟩ := DataW.trod_bool Tryz.underlying4 h1
  obtain rfl : c1 = .bool b := by simpa using hb
  subst e
  exact ⟨⟨l, b⟩, k24_mk W ⟨l, b⟩ hlc hC⟩
theorem read_exprs {v : Value} {d : DataW H} {p : List MemPlace} {r : Reach} {b0 : Nat} (hv : Value.okWide Tryz.prog W r b0 59 v) (h : DataW.Trod enc Tryz.prog W 0 spare held 59 v d p) :
  ∃ (A : Option Addr) (c : Nat) (l : List S24), v = .slice A l.length c ∧ l.length ≤ c ∧ Kd.C k24 W A l.length l := by
 obtain ⟨a, len, cap, rfl⟩ := okWide_slice Tryz.underlying59 hv
 obtain ⟨fuel, hf⟩ := h
 exact C_of_trod k24 Tryz.underlying59 (by kernel_rfl) read_exprE (va := .slice a len cap) (by simpa [Value.cells] using hf)
end
end Go.Proofs.YtemgofomhjabpaaGreatDoor.Core
namespace Go.Proofs.YtemgofomhjabpaaGreatDoor.FnBatchRow
open Go.ChangeShapes Go.WideShapes Go.ChangeAt Go.RowKit Go.Proofs.YtemgofomhjabpaaGreatDoorW.PrintWords Go.Proofs.YtemgofomhjabpaaGreatDoor.Core
theorem own : ownKnob Tryz.prog.godebug = none := by kernel_rfl
theorem laidOut : laidOutB Tryz.prog = true := by kernel_rfl
set_option maxRecDepth 100000 in
theorem lifted (os : Os) (started : os.Started) (H : Type) (enc : TypeId × Value → H) :
  ReturnsInHanded {} Tryz.checked os 10 .any (fun w args => (Rows.fnBatchSpec.pre enc Tryz.prog Tryz.f10 Rows.fnBatchRow.domain false w args ∧ laidMetH Tryz.prog Rows.fnBatchRow.laid w) ∧ sizedMet enc Tryz.prog Tryz.f10 (OpenSpec.ofChange Rows.fnBatchSpec) false w args)
   (Rows.fnBatchSpec.post enc Tryz.prog Tryz.f10 false true false false) := by
 refine returnsInHanded_of_change_and (C := Tryz.checked) (X := fun w _ => laidMetH Tryz.prog Rows.fnBatchRow.laid w) (fun _ _ _ hh h => h.of_heap hh) own started (by kernel_rfl) Tryz.func10
  (ChangeSpec.witness_shaped (enc := enc) (C := Tryz.checked) (os := os) (X := fun w _ => laidMetH Tryz.prog Rows.fnBatchRow.laid w) false (World.laidAll Tryz.prog os Rows.fnBatchRow.laid) #[.slice none 0 0, .agg #[.int .i64 0, .int .i64 0, .int .i64 0, .int .i64 0, .int .i64 0, .int .i64 0]] 8 (World.laidAll_os _ _ _)
   (World.shaped_of_ZipB (by kernel_rfl) (by kernel_rfl)) (by kernel_rfl) (by kernel_rfl) (by kernel_rfl)
   (by rw [MakeChecks.laidMetH_plain _ _ _ (by kernel_rfl)]; exact laidMet_laidAll _ (by kernel_rfl) (by kernel_rfl))) ?_
 intro W base args ds gs before hval0 hW _ _ _ _
 have hval : ∀ (j : Nat) t v, Tryz.f10.params[j]? = some t → args[j]? = some v → Value.okWide Tryz.prog W .any base t v := hval0
 have hW' := hW
 obtain ⟨p, q, hA0, hV, rfl, _, _⟩ := hW
 have hA : DataW.TrodAll enc Tryz.prog W 0 (fun _ => true) true Tryz.f10.params.toList args.toList ds p := hA0
 rw [Tryz.params10] at hA hval
 obtain ⟨v0, vs0, d0, ds0, p0, q0, hargs, rfl, rfl, h0, r0⟩ := trodAll_cons hA
 obtain ⟨v1, vs1, d1, ds1, p1, q1, rfl, rfl, rfl, h1, r1⟩ := trodAll_cons r0
 obtain ⟨rfl, rfl, rfl⟩ := trodAll_nil r1
 obtain rfl : args = #[v0, v1] := by cases args; simp_all
 obtain ⟨rfl, rfl⟩ := trodVars_none hV
 obtain ⟨A0, c0, l0, rfl, hl0, hC0⟩ := read_exprs (hval 0 59 v0 rfl rfl) h0
 obtain ⟨y1, mo1, d'1, hh1, mi1, s1, rfl⟩ := read_moment (hval 1 26 v1 rfl rfl) h1
 have lt0 : ∀ x ∈ p0, x.block < W.heap.size := fun x hx => hW'.lt x (by simp [hx])
 have lt1 : ∀ x ∈ p1, x.block < W.heap.size := fun x hx => hW'.lt x (by simp [hx])
 clear hA0 hval0
 obtain ⟨k, hk⟩ := fnBatch_pure l0 y1 mo1 d'1 hh1 mi1 s1
 refine (laws_FnBatch.calls k A0 c0 l0 y1 mo1 d'1 hh1 mi1 s1 true W hC0 hl0  ⟨rfl⟩ hk).mono fun e W' ⟨he, bel⟩ => ?_
 subst he
 exact ⟨_, rfl, _, _, _, [], _, [], hW', trodAll_mk1 (shut_bool Tryz.underlying4 _), (trodAll_cons_mk (Below.trod laidOut (by kernel_rfl) (of_decide_eq_true (by kernel_rfl)) h0 bel lt0) (trodAll_cons_mk (Below.trod laidOut (by kernel_rfl) (of_decide_eq_true (by kernel_rfl)) h1 bel lt1) trodAll_mk0)), rfl, bel.frame _, fun h => by cases h⟩
theorem said : Rows.FnBatchSaid :=
 OpenClaim.holds_of_wide 10 Tryz.f10 rfl rfl rfl rfl rfl rfl rfl ⟨rfl, rfl, rfl, rfl, rfl⟩ rfl rfl rfl rfl rfl (by kernel_rfl) Tryz.func10 (by kernel_rfl)
  (of_decide_eq_true (by kernel_rfl)) (by unfold Func.isWrapper; first | (rw [if_pos (by decide +kernel)]; kernel_rfl) | (rw [if_neg (by decide +kernel)]; exact ⟨rfl, rfl⟩))
  (fun os started H enc _ => lifted os started H enc)
theorem plain (f : FuncId) (fn : Func) (hf : Tryz.pinned.checked.prog.funcNamed Rows.fnBatchRow.func = some f) (hfn : Tryz.pinned.checked.prog.funcs[f]? = some fn) :
  true = Tryz.pinned.checked.prog.looks [] ∧ ∀ (j : Nat) t, fn.params[j]? = some t → Tryz.pinned.checked.prog.wantsStandIn t = false := by
 obtain rfl : f = 10 := Option.some.inj ((show Tryz.prog.funcNamed Rows.fnBatchRow.func = some 10 by kernel_rfl).symm.trans hf) |>.symm
 obtain rfl : fn = Tryz.f10 := (Option.some.inj (Tryz.func10.symm.trans hfn)).symm
 refine ⟨by kernel_rfl, fun j t ht => ?_⟩
 rw [Tryz.params10] at ht
 have hm : t ∈ [59, 26] := by simpa using Array.mem_of_getElem? ht
 have hall : ([59, 26].all fun u => !Tryz.prog.wantsStandIn u) = true := by kernel_rfl
 exact (show Tryz.prog.wantsStandIn t = false by simpa using List.all_eq_true.1 hall t hm)
theorem card : Rows.FnBatchCardSaid :=
 Claim7.holds_tied_plain_at .later [] _ _ _ _ said (fun _ h => by cases h) (by kernel_rfl) (fun _ h => by cases h) fnBatch_row_tie rfl ⟨rfl, rfl⟩ (by kernel_rfl) rfl plain (by kernel_rfl)
#print axioms card
end Go.Proofs.YtemgofomhjabpaaGreatDoor.FnBatchRow
namespace Go.Proofs.YtemgofomhjabpaaGreatDoor
theorem fnBatch_holds : Rows.FnBatchCardSaid := FnBatchRow.card
end Go.Proofs.YtemgofomhjabpaaGreatDoor
