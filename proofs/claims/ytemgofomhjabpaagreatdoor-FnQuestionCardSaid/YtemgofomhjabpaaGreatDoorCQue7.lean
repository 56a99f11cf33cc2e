/-
  PROVED: THE CARD OF laws.FnQuestion: for every expression and moment that come in, the call returns true, and the arguments read as they did.
  CONDITIONS: the row's own ('laid': tables of Go's library read as the row lists them; the tie is given).
-/
import Derived.Test.YtemgofomhjabpaaGreatDoorCQue1
import Derived.Test.YtemgofomhjabpaaGreatDoorCQue2
import Derived.Test.YtemgofomhjabpaaGreatDoorCQue3
import Derived.Test.YtemgofomhjabpaaGreatDoorCQue4
import Derived.Test.YtemgofomhjabpaaGreatDoorCQue5
import Derived.Test.YtemgofomhjabpaaGreatDoorCQue6
import Derived.Deep.Slices
import Derived.Deep.Fields
import Derived.ChangeSame
import Derived.Lib.SmallJoins
import Derived.WideShapes
import Derived.OpenShut
import Derived.Test.YtemgofomhjabpaaGreatDoorCards
import Derived.Test.YtemgofomhjabpaaGreatDoorTie
import Derived.ProofKit
import Derived.LaidMore
import Derived.Lay
import Derived.SevenTiedAt
import Derived.Carry
namespace Go.Proofs.YtemgofomhjabpaaGreatDoor.Core
open Go.RowKit Go.Proofs.YtemgofomhjabpaaGreatDoorW.PrintWords
set_option maxRecDepth 100000 in
set_option maxHeartbeats 800000 in
theorem range_in (val a b : Int) (s : ByteArray) (t : List Int) (k : Nat) (Q : List ByteArray) (hs2 : gronx_zzSplit.f k s ⟨#[45]⟩ = some Q) (hQ : Q.length = 2) (ha0 : strconv_Atoi.f (rdOf ByteArray.empty Q 0) = some (a, none)) (ha1 : strconv_Atoi.f (rdOf ByteArray.empty Q 1) = some (b, none)) (ht : t.length = 2) (hab : a ≤ b) (hlo : rd t 0 ≤ a) (hhi : b ≤ rd t 1) (hv : a ≤ val)  : InC 135 val s t false (decide (val ≤ b)) := by
  intro A cc w hC hcc
  have hs2 := Aside0.mk hs2
  have ha0 := Aside0.mk ha0
  have ha1 := Aside0.mk ha1
  obtain ⟨ab, rfl, u0, u1⟩ := two_int hC rfl (by omega)
  have qi0 : (0 < t.length) = True := eq_true (by omega)
  have qi1 : (0 < (t.length : Int)) = True := eq_true (by omega)
  have qi2 : (1 < t.length) = True := eq_true (by omega)
  have qi3 : (1 < (t.length : Int)) = True := eq_true (by omega)
  have qq0 : (1 < Q.length) = True := eq_true (by omega)
  have qq1 : (1 < (Q.length : Int)) = True := eq_true (by omega)
  have qq2 : (0 < Q.length) = True := eq_true (by omega)
  have qq3 : (0 < (Q.length : Int)) = True := eq_true (by omega)
  generalize rd t 0 = lo at *
  generalize rd t 1 = hi' at *
  have n3 : ¬ b < a := by omega
  have n4 : ¬ a < lo := by omega
  have n5 : ¬ hi' < b := by omega
  have n6 : ¬ b < lo := by omega
  have n7 : ¬ hi' < a := by omega
  go_enter Tryz.func135, Tryz.ntmps135
  go_wp2_with (first | (go_at_call 62; refine (gronx_zzSplit.calls k _ _ _ _ hs2.out).mono ?_; rintro e w3 ⟨v2, rfl, hR2, hb3⟩; obtain ⟨A2, c2, rfl⟩ := Kd.R_slice hR2; obtain ⟨ae, rfl, z0, z1⟩ := two_at (Kd.R_reads' hR2).2.2 rfl (by omega); have u6 := cell_after hb3 u0; have u7 := cell_after hb3 u1; clear hs2) | (go_at_call 136; refine (strconv_Atoi.calls _ _ _ _ ha0.out).mono ?_; rintro e w4 ⟨rfl, hb4⟩; have u8 := cell_after hb4 u6; have u9 := cell_after hb4 u7; have z2 := cell_after hb4 z1; rw [errW_none]; clear ha0) | (go_at_call 136; refine (strconv_Atoi.calls _ _ _ _ ha1.out).mono ?_; rintro e w5 ⟨rfl, hb5⟩; have v8 := cell_after hb5 u8; have v9 := cell_after hb5 u9; rw [errW_none]; clear ha1))
  go_ret2
  exact ⟨by first | rfl | simp [*], by repeat (first | exact below_step (below_step hb3 hb4) hb5 | apply pw_below_drewN)⟩
set_option maxRecDepth 100000 in
set_option maxHeartbeats 800000 in
theorem range_out (val a b : Int) (s : ByteArray) (t : List Int) (k : Nat) (Q : List ByteArray) (hs2 : gronx_zzSplit.f k s ⟨#[45]⟩ = some Q) (hQ : Q.length = 2) (ha0 : strconv_Atoi.f (rdOf ByteArray.empty Q 0) = some (a, none)) (ha1 : strconv_Atoi.f (rdOf ByteArray.empty Q 1) = some (b, none)) (ht : t.length = 2) (hab : a ≤ b) (hlo : rd t 0 ≤ a) (hhi : b ≤ rd t 1) (hv0 : ¬ a ≤ val)  : InC 135 val s t false false := by
  intro A cc w hC hcc
  have hs2 := Aside0.mk hs2
  have ha0 := Aside0.mk ha0
  have ha1 := Aside0.mk ha1
  obtain ⟨ab, rfl, u0, u1⟩ := two_int hC rfl (by omega)
  have qi0 : (0 < t.length) = True := eq_true (by omega)
  have qi1 : (0 < (t.length : Int)) = True := eq_true (by omega)
  have qi2 : (1 < t.length) = True := eq_true (by omega)
  have qi3 : (1 < (t.length : Int)) = True := eq_true (by omega)
  have qq0 : (1 < Q.length) = True := eq_true (by omega)
  have qq1 : (1 < (Q.length : Int)) = True := eq_true (by omega)
  have qq2 : (0 < Q.length) = True := eq_true (by omega)
  have qq3 : (0 < (Q.length : Int)) = True := eq_true (by omega)
  generalize rd t 0 = lo at *
  generalize rd t 1 = hi' at *
  have n3 : ¬ b < a := by omega
  have n4 : ¬ a < lo := by omega
  have n5 : ¬ hi' < b := by omega
  have n6 : ¬ b < lo := by omega
  have n7 : ¬ hi' < a := by omega
  have hv : val < a := by omega
  clear hv0
  go_enter Tryz.func135, Tryz.ntmps135
  go_wp2_with (first | (go_at_call 62; refine (gronx_zzSplit.calls k _ _ _ _ hs2.out).mono ?_; rintro e w3 ⟨v2, rfl, hR2, hb3⟩; obtain ⟨A2, c2, rfl⟩ := Kd.R_slice hR2; obtain ⟨ae, rfl, z0, z1⟩ := two_at (Kd.R_reads' hR2).2.2 rfl (by omega); have u6 := cell_after hb3 u0; have u7 := cell_after hb3 u1; clear hs2) | (go_at_call 136; refine (strconv_Atoi.calls _ _ _ _ ha0.out).mono ?_; rintro e w4 ⟨rfl, hb4⟩; have u8 := cell_after hb4 u6; have u9 := cell_after hb4 u7; have z2 := cell_after hb4 z1; rw [errW_none]; clear ha0) | (go_at_call 136; refine (strconv_Atoi.calls _ _ _ _ ha1.out).mono ?_; rintro e w5 ⟨rfl, hb5⟩; have v8 := cell_after hb5 u8; have v9 := cell_after hb5 u9; rw [errW_none]; clear ha1))
  go_ret2
  exact ⟨by first | rfl | simp [*], by repeat (first | exact below_step (below_step hb3 hb4) hb5 | apply pw_below_drewN)⟩
set_option maxRecDepth 100000 in
set_option maxHeartbeats 800000 in
theorem range_in_wd (val a b : Int) (s : ByteArray) (t : List Int) (k : Nat) (Q : List ByteArray) (hs2 : gronx_zzSplit.f k s ⟨#[45]⟩ = some Q) (hQ : Q.length = 2) (ha0 : strconv_Atoi.f (rdOf ByteArray.empty Q 0) = some (a, none)) (ha1 : strconv_Atoi.f (rdOf ByteArray.empty Q 1) = some (b, none)) (ht : t.length = 2) (hab : a ≤ b) (hlo : rd t 0 ≤ a) (hhi : b ≤ rd t 1) (b6 : b ≤ 6) (hv : a ≤ val)  : InC 135 val s t true (decide (val ≤ b)) := by
  intro A cc w hC hcc
  have hs2 := Aside0.mk hs2
  have ha0 := Aside0.mk ha0
  have ha1 := Aside0.mk ha1
  obtain ⟨ab, rfl, u0, u1⟩ := two_int hC rfl (by omega)
  have qi0 : (0 < t.length) = True := eq_true (by omega)
  have qi1 : (0 < (t.length : Int)) = True := eq_true (by omega)
  have qi2 : (1 < t.length) = True := eq_true (by omega)
  have qi3 : (1 < (t.length : Int)) = True := eq_true (by omega)
  have qq0 : (1 < Q.length) = True := eq_true (by omega)
  have qq1 : (1 < (Q.length : Int)) = True := eq_true (by omega)
  have qq2 : (0 < Q.length) = True := eq_true (by omega)
  have qq3 : (0 < (Q.length : Int)) = True := eq_true (by omega)
  generalize rd t 0 = lo at *
  generalize rd t 1 = hi' at *
  have n3 : ¬ b < a := by omega
  have n4 : ¬ a < lo := by omega
  have n5 : ¬ hi' < b := by omega
  have n6 : ¬ b < lo := by omega
  have n7 : ¬ hi' < a := by omega
  have m6 : (a == 7) = false := beq_eq_false_iff_ne.mpr (by omega)
  have m7 : (b == 7) = false := beq_eq_false_iff_ne.mpr (by omega)
  have m8 : a ≠ 7 := by omega
  have m9 : b ≠ 7 := by omega
  go_enter Tryz.func135, Tryz.ntmps135
  go_wp2_with (first | (go_at_call 62; refine (gronx_zzSplit.calls k _ _ _ _ hs2.out).mono ?_; rintro e w3 ⟨v2, rfl, hR2, hb3⟩; obtain ⟨A2, c2, rfl⟩ := Kd.R_slice hR2; obtain ⟨ae, rfl, z0, z1⟩ := two_at (Kd.R_reads' hR2).2.2 rfl (by omega); have u6 := cell_after hb3 u0; have u7 := cell_after hb3 u1; clear hs2) | (go_at_call 136; refine (strconv_Atoi.calls _ _ _ _ ha0.out).mono ?_; rintro e w4 ⟨rfl, hb4⟩; have u8 := cell_after hb4 u6; have u9 := cell_after hb4 u7; have z2 := cell_after hb4 z1; rw [errW_none]; clear ha0) | (go_at_call 136; refine (strconv_Atoi.calls _ _ _ _ ha1.out).mono ?_; rintro e w5 ⟨rfl, hb5⟩; have v8 := cell_after hb5 u8; have v9 := cell_after hb5 u9; rw [errW_none]; clear ha1))
  go_ret2
  exact ⟨by first | rfl | simp [*], by repeat (first | exact below_step (below_step hb3 hb4) hb5 | apply pw_below_drewN)⟩
set_option maxRecDepth 100000 in
set_option maxHeartbeats 800000 in
theorem range_out_wd (val a b : Int) (s : ByteArray) (t : List Int) (k : Nat) (Q : List ByteArray) (hs2 : gronx_zzSplit.f k s ⟨#[45]⟩ = some Q) (hQ : Q.length = 2) (ha0 : strconv_Atoi.f (rdOf ByteArray.empty Q 0) = some (a, none)) (ha1 : strconv_Atoi.f (rdOf ByteArray.empty Q 1) = some (b, none)) (ht : t.length = 2) (hab : a ≤ b) (hlo : rd t 0 ≤ a) (hhi : b ≤ rd t 1) (b6 : b ≤ 6) (hv0 : ¬ a ≤ val)  : InC 135 val s t true false := by
  intro A cc w hC hcc
  have hs2 := Aside0.mk hs2
  have ha0 := Aside0.mk ha0
  have ha1 := Aside0.mk ha1
  obtain ⟨ab, rfl, u0, u1⟩ := two_int hC rfl (by omega)
  have qi0 : (0 < t.length) = True := eq_true (by omega)
  have qi1 : (0 < (t.length : Int)) = True := eq_true (by omega)
  have qi2 : (1 < t.length) = True := eq_true (by omega)
  have qi3 : (1 < (t.length : Int)) = True := eq_true (by omega)
  have qq0 : (1 < Q.length) = True := eq_true (by omega)
  have qq1 : (1 < (Q.length : Int)) = True := eq_true (by omega)
  have qq2 : (0 < Q.length) = True := eq_true (by omega)
  have qq3 : (0 < (Q.length : Int)) = True := eq_true (by omega)
  generalize rd t 0 = lo at *
  generalize rd t 1 = hi' at *
  have n3 : ¬ b < a := by omega
  have n4 : ¬ a < lo := by omega
  have n5 : ¬ hi' < b := by omega
  have n6 : ¬ b < lo := by omega
  have n7 : ¬ hi' < a := by omega
  have m6 : (a == 7) = false := beq_eq_false_iff_ne.mpr (by omega)
  have m7 : (b == 7) = false := beq_eq_false_iff_ne.mpr (by omega)
  have m8 : a ≠ 7 := by omega
  have m9 : b ≠ 7 := by omega
  have hv : val < a := by omega
  clear hv0
  go_enter Tryz.func135, Tryz.ntmps135
  go_wp2_with (first | (go_at_call 62; refine (gronx_zzSplit.calls k _ _ _ _ hs2.out).mono ?_; rintro e w3 ⟨v2, rfl, hR2, hb3⟩; obtain ⟨A2, c2, rfl⟩ := Kd.R_slice hR2; obtain ⟨ae, rfl, z0, z1⟩ := two_at (Kd.R_reads' hR2).2.2 rfl (by omega); have u6 := cell_after hb3 u0; have u7 := cell_after hb3 u1; clear hs2) | (go_at_call 136; refine (strconv_Atoi.calls _ _ _ _ ha0.out).mono ?_; rintro e w4 ⟨rfl, hb4⟩; have u8 := cell_after hb4 u6; have u9 := cell_after hb4 u7; have z2 := cell_after hb4 z1; rw [errW_none]; clear ha0) | (go_at_call 136; refine (strconv_Atoi.calls _ _ _ _ ha1.out).mono ?_; rintro e w5 ⟨rfl, hb5⟩; have v8 := cell_after hb5 u8; have v9 := cell_after hb5 u9; rw [errW_none]; clear ha1))
  go_ret2
  exact ⟨by first | rfl | simp [*], by repeat (first | exact below_step (below_step hb3 hb4) hb5 | apply pw_below_drewN)⟩
set_option maxRecDepth 100000 in
set_option maxHeartbeats 800000 in
theorem offStar_w (c : Nat) (val : Int) (pos : Nat) : OffC c val pos ⟨#[42]⟩ true false := by
  intro w
  go_enter Tryz.func117, Tryz.ntmps117
  go_wp2
  go_ret2
  exact ⟨_, rfl, .inl ⟨rfl, rfl⟩, by repeat (first | exact Below.refl _ _ | apply pw_below_drewN)⟩
set_option maxRecDepth 100000 in
set_option maxHeartbeats 800000 in
theorem offStep_w (c : Nat) (o : ByteArray) (k : Nat) (val : Int) (t : List Int) (pos : Nat) (s1 : o.toList ≠ ([42] : List UInt8)) (s2 : o.toList ≠ ([63] : List UInt8)) (hb : gronx_boundsByPos.f k (pos : Int) = some t) (h1 : gronx_zzContains.f k o ⟨#[47]⟩ = some true) (r : Bool) (hin : InC 134 val o t ((pos : Int) == 5) r) : OffC c val pos o r false := by
  intro w
  have hb := Aside0.mk hb
  have q1 : (o.toList == ([42] : List UInt8)) = false := beq_eq_false_iff_ne.mpr s1
  have q2 : (o.toList == ([63] : List UInt8)) = false := beq_eq_false_iff_ne.mpr s2
  have h1 := Aside0.mk h1
  have hin := Aside0.mk hin
  go_enter Tryz.func117, Tryz.ntmps117
  go_wp2_with (first | (go_at_call 132; refine (gronx_boundsByPos.calls k _ _ _ hb.out).mono ?_; rintro e w1 ⟨v0, rfl, hR, hb1⟩; obtain ⟨A, cc, rfl⟩ := Kd.R_slice hR) | (go_at_call 133; refine (gronx_zzContains.calls k _ _ _ _ h1.out).mono ?_; rintro e wz ⟨rfl, ⟨nd, rfl⟩⟩; clear h1) | (go_at_call 134; refine (hin.out _ _ _ (Kd.C_below (Kd.R_reads' hR).2.2 (by repeat (first | exact Below.refl _ _ | apply pw_below_drewN))) (Kd.R_reads' hR).2.1).mono ?_; rintro e w2 ⟨rfl, hb2⟩))
  go_ret2
  exact ⟨_, rfl, .inl ⟨rfl, rfl⟩, below_step (by repeat (first | exact hb1 | apply pw_below_drewN)) hb2⟩
set_option maxRecDepth 100000 in
set_option maxHeartbeats 800000 in
theorem offRange_w (c : Nat) (o : ByteArray) (k : Nat) (val : Int) (t : List Int) (pos : Nat) (s1 : o.toList ≠ ([42] : List UInt8)) (s2 : o.toList ≠ ([63] : List UInt8)) (hb : gronx_boundsByPos.f k (pos : Int) = some t) (h1 : gronx_zzContains.f k o ⟨#[47]⟩ = some false) (h2 : gronx_zzContains.f k o ⟨#[45]⟩ = some true) (r : Bool) (hin : InC 135 val o t ((pos : Int) == 5) r) : OffC c val pos o r false := by
  intro w
  have hb := Aside0.mk hb
  have q1 : (o.toList == ([42] : List UInt8)) = false := beq_eq_false_iff_ne.mpr s1
  have q2 : (o.toList == ([63] : List UInt8)) = false := beq_eq_false_iff_ne.mpr s2
  have h1 := Aside0.mk h1
  have h2 := Aside0.mk h2
  have hin := Aside0.mk hin
  go_enter Tryz.func117, Tryz.ntmps117
  go_wp2_with (first | (go_at_call 132; refine (gronx_boundsByPos.calls k _ _ _ hb.out).mono ?_; rintro e w1 ⟨v0, rfl, hR, hb1⟩; obtain ⟨A, cc, rfl⟩ := Kd.R_slice hR) | (go_at_call 133; refine (gronx_zzContains.calls k _ _ _ _ h1.out).mono ?_; rintro e wz ⟨rfl, ⟨nd, rfl⟩⟩; clear h1) | (go_at_call 133; refine (gronx_zzContains.calls k _ _ _ _ h2.out).mono ?_; rintro e wz ⟨rfl, ⟨nd2, rfl⟩⟩; clear h2) | (go_at_call 135; refine (hin.out _ _ _ (Kd.C_below (Kd.R_reads' hR).2.2 (by repeat (first | exact Below.refl _ _ | apply pw_below_drewN))) (Kd.R_reads' hR).2.1).mono ?_; rintro e w2 ⟨rfl, hb2⟩))
  go_ret2
  exact ⟨_, rfl, .inl ⟨rfl, rfl⟩, below_step (by repeat (first | exact hb1 | apply pw_below_drewN)) hb2⟩
set_option maxRecDepth 100000 in
set_option maxHeartbeats 800000 in
theorem offNum_wd_eq (c : Nat) (o : ByteArray) (k : Nat) (val : Int) (t : List Int) (pos : Nat) (s1 : o.toList ≠ ([42] : List UInt8)) (s2 : o.toList ≠ ([63] : List UInt8)) (hb : gronx_boundsByPos.f k (pos : Int) = some t) (ht : t.length = 2) (n : Int) (h1 : gronx_zzContains.f k o ⟨#[47]⟩ = some false) (h2 : gronx_zzContains.f k o ⟨#[45]⟩ = some false) (ha : strconv_Atoi.f o = some (n, none)) (hlo : rd t 0 ≤ n) (hhi : n ≤ rd t 1) (hp : pos = 5) (hn : n = val)  : OffC c val pos o true false := by
  intro w
  have hb := Aside0.mk hb
  have q1 : (o.toList == ([42] : List UInt8)) = false := beq_eq_false_iff_ne.mpr s1
  have q2 : (o.toList == ([63] : List UInt8)) = false := beq_eq_false_iff_ne.mpr s2
  have h1 := Aside0.mk h1
  have h2 := Aside0.mk h2
  have ha := Aside0.mk ha
  have qi0 : (0 < t.length) = True := eq_true (by omega)
  have qi1 : (0 < (t.length : Int)) = True := eq_true (by omega)
  have qi2 : (1 < t.length) = True := eq_true (by omega)
  have qi3 : (1 < (t.length : Int)) = True := eq_true (by omega)
  have g0 : ∃ lo, rd t 0 = lo := ⟨_, rfl⟩
  have g1 : ∃ hi, rd t 1 = hi := ⟨_, rfl⟩
  obtain ⟨lo, g0⟩ := g0
  obtain ⟨hi, g1⟩ := g1
  rw [g0] at hlo
  rw [g1] at hhi
  have n4 : ¬ n < lo := by omega
  have n5 : ¬ hi < n := by omega
  have e5 : ((pos : Int) == 5) = true := by simp; omega
  clear hp
  have f1 : (n == val) = true := by simp [hn]
  clear hn
  go_enter Tryz.func117, Tryz.ntmps117
  go_wp2_with (first | (go_at_call 132; refine (gronx_boundsByPos.calls k _ _ _ hb.out).mono ?_; rintro e w1 ⟨v0, rfl, hR, hb1⟩; obtain ⟨A, cc, rfl⟩ := Kd.R_slice hR) | (go_at_call 133; refine (gronx_zzContains.calls k _ _ _ _ h1.out).mono ?_; rintro e wz ⟨rfl, ⟨nd, rfl⟩⟩; clear h1) | (go_at_call 133; refine (gronx_zzContains.calls k _ _ _ _ h2.out).mono ?_; rintro e wz ⟨rfl, ⟨nd2, rfl⟩⟩; clear h2) | (go_at_call 136; refine (strconv_Atoi.calls _ _ _ _ ha.out).mono ?_; rintro e w2 ⟨rfl, hb2⟩; rw [errW_none]; obtain ⟨ad, rfl, y0, y1⟩ := two_int (Kd.R_reads' hR).2.2 rfl (by omega); have x0 := cell_after (by repeat (first | exact hb2 | exact below_step (by repeat (first | exact Below.refl _ _ | apply pw_below_drewN)) hb2)) y0; rw [g0] at x0; have x1 := cell_after (by repeat (first | exact hb2 | exact below_step (by repeat (first | exact Below.refl _ _ | apply pw_below_drewN)) hb2)) y1; rw [g1] at x1))
  go_ret2
  exact ⟨_, rfl, .inl ⟨rfl, rfl⟩, below_step (by repeat (first | exact hb1 | apply pw_below_drewN)) hb2⟩
set_option maxRecDepth 100000 in
set_option maxHeartbeats 800000 in
theorem offNum_wd_ne (c : Nat) (o : ByteArray) (k : Nat) (val : Int) (t : List Int) (pos : Nat) (s1 : o.toList ≠ ([42] : List UInt8)) (s2 : o.toList ≠ ([63] : List UInt8)) (hb : gronx_boundsByPos.f k (pos : Int) = some t) (ht : t.length = 2) (n : Int) (h1 : gronx_zzContains.f k o ⟨#[47]⟩ = some false) (h2 : gronx_zzContains.f k o ⟨#[45]⟩ = some false) (ha : strconv_Atoi.f o = some (n, none)) (hlo : rd t 0 ≤ n) (hhi : n ≤ rd t 1) (hp : pos = 5) (n6 : n ≤ 6) (hn : n ≠ val)  : OffC c val pos o false false := by
  intro w
  have hb := Aside0.mk hb
  have q1 : (o.toList == ([42] : List UInt8)) = false := beq_eq_false_iff_ne.mpr s1
  have q2 : (o.toList == ([63] : List UInt8)) = false := beq_eq_false_iff_ne.mpr s2
  have h1 := Aside0.mk h1
  have h2 := Aside0.mk h2
  have ha := Aside0.mk ha
  have qi0 : (0 < t.length) = True := eq_true (by omega)
  have qi1 : (0 < (t.length : Int)) = True := eq_true (by omega)
  have qi2 : (1 < t.length) = True := eq_true (by omega)
  have qi3 : (1 < (t.length : Int)) = True := eq_true (by omega)
  have g0 : ∃ lo, rd t 0 = lo := ⟨_, rfl⟩
  have g1 : ∃ hi, rd t 1 = hi := ⟨_, rfl⟩
  obtain ⟨lo, g0⟩ := g0
  obtain ⟨hi, g1⟩ := g1
  rw [g0] at hlo
  rw [g1] at hhi
  have n4 : ¬ n < lo := by omega
  have n5 : ¬ hi < n := by omega
  have e5 : ((pos : Int) == 5) = true := by simp; omega
  clear hp
  have f1 : (n == val) = false := by simp [hn]
  have f2 : (n == 7) = false := by simp; omega
  have f3 : n ≠ 7 := by omega
  go_enter Tryz.func117, Tryz.ntmps117
  go_wp2_with (first | (go_at_call 132; refine (gronx_boundsByPos.calls k _ _ _ hb.out).mono ?_; rintro e w1 ⟨v0, rfl, hR, hb1⟩; obtain ⟨A, cc, rfl⟩ := Kd.R_slice hR) | (go_at_call 133; refine (gronx_zzContains.calls k _ _ _ _ h1.out).mono ?_; rintro e wz ⟨rfl, ⟨nd, rfl⟩⟩; clear h1) | (go_at_call 133; refine (gronx_zzContains.calls k _ _ _ _ h2.out).mono ?_; rintro e wz ⟨rfl, ⟨nd2, rfl⟩⟩; clear h2) | (go_at_call 136; refine (strconv_Atoi.calls _ _ _ _ ha.out).mono ?_; rintro e w2 ⟨rfl, hb2⟩; rw [errW_none]; obtain ⟨ad, rfl, y0, y1⟩ := two_int (Kd.R_reads' hR).2.2 rfl (by omega); have x0 := cell_after (by repeat (first | exact hb2 | exact below_step (by repeat (first | exact Below.refl _ _ | apply pw_below_drewN)) hb2)) y0; rw [g0] at x0; have x1 := cell_after (by repeat (first | exact hb2 | exact below_step (by repeat (first | exact Below.refl _ _ | apply pw_below_drewN)) hb2)) y1; rw [g1] at x1))
  go_ret2
  exact ⟨_, rfl, .inl ⟨rfl, rfl⟩, below_step (by repeat (first | exact hb1 | apply pw_below_drewN)) hb2⟩
set_option maxRecDepth 100000 in
set_option maxHeartbeats 800000 in
theorem offNum_zz (c : Nat) (o : ByteArray) (k : Nat) (val : Int) (t : List Int) (pos : Nat) (s1 : o.toList ≠ ([42] : List UInt8)) (s2 : o.toList ≠ ([63] : List UInt8)) (hb : gronx_boundsByPos.f k (pos : Int) = some t) (ht : t.length = 2) (n : Int) (h1 : gronx_zzContains.f k o ⟨#[47]⟩ = some false) (h2 : gronx_zzContains.f k o ⟨#[45]⟩ = some false) (ha : strconv_Atoi.f o = some (n, none)) (hlo : rd t 0 ≤ n) (hhi : n ≤ rd t 1) (hp : pos ≠ 5) (hv : val = 0) (hn : n = 0)  : OffC c val pos o true false := by
  intro w
  have hb := Aside0.mk hb
  have q1 : (o.toList == ([42] : List UInt8)) = false := beq_eq_false_iff_ne.mpr s1
  have q2 : (o.toList == ([63] : List UInt8)) = false := beq_eq_false_iff_ne.mpr s2
  have h1 := Aside0.mk h1
  have h2 := Aside0.mk h2
  have ha := Aside0.mk ha
  have qi0 : (0 < t.length) = True := eq_true (by omega)
  have qi1 : (0 < (t.length : Int)) = True := eq_true (by omega)
  have qi2 : (1 < t.length) = True := eq_true (by omega)
  have qi3 : (1 < (t.length : Int)) = True := eq_true (by omega)
  have g0 : ∃ lo, rd t 0 = lo := ⟨_, rfl⟩
  have g1 : ∃ hi, rd t 1 = hi := ⟨_, rfl⟩
  obtain ⟨lo, g0⟩ := g0
  obtain ⟨hi, g1⟩ := g1
  rw [g0] at hlo
  rw [g1] at hhi
  have n4 : ¬ n < lo := by omega
  have n5 : ¬ hi < n := by omega
  have e5 : ((pos : Int) == 5) = false := by simp; omega
  clear hp
  have f1 : (val == 0) = true := by simp [hv]
  have f2 : (n == 0) = true := by simp [hn]
  clear hv hn
  go_enter Tryz.func117, Tryz.ntmps117
  go_wp2_with (first | (go_at_call 132; refine (gronx_boundsByPos.calls k _ _ _ hb.out).mono ?_; rintro e w1 ⟨v0, rfl, hR, hb1⟩; obtain ⟨A, cc, rfl⟩ := Kd.R_slice hR) | (go_at_call 133; refine (gronx_zzContains.calls k _ _ _ _ h1.out).mono ?_; rintro e wz ⟨rfl, ⟨nd, rfl⟩⟩; clear h1) | (go_at_call 133; refine (gronx_zzContains.calls k _ _ _ _ h2.out).mono ?_; rintro e wz ⟨rfl, ⟨nd2, rfl⟩⟩; clear h2) | (go_at_call 136; refine (strconv_Atoi.calls _ _ _ _ ha.out).mono ?_; rintro e w2 ⟨rfl, hb2⟩; rw [errW_none]; obtain ⟨ad, rfl, y0, y1⟩ := two_int (Kd.R_reads' hR).2.2 rfl (by omega); have x0 := cell_after (by repeat (first | exact hb2 | exact below_step (by repeat (first | exact Below.refl _ _ | apply pw_below_drewN)) hb2)) y0; rw [g0] at x0; have x1 := cell_after (by repeat (first | exact hb2 | exact below_step (by repeat (first | exact Below.refl _ _ | apply pw_below_drewN)) hb2)) y1; rw [g1] at x1))
  go_ret2
  exact ⟨_, rfl, .inl ⟨rfl, rfl⟩, below_step (by repeat (first | exact hb1 | apply pw_below_drewN)) hb2⟩
set_option maxRecDepth 100000 in
set_option maxHeartbeats 800000 in
theorem offNum_zn (c : Nat) (o : ByteArray) (k : Nat) (val : Int) (t : List Int) (pos : Nat) (s1 : o.toList ≠ ([42] : List UInt8)) (s2 : o.toList ≠ ([63] : List UInt8)) (hb : gronx_boundsByPos.f k (pos : Int) = some t) (ht : t.length = 2) (n : Int) (h1 : gronx_zzContains.f k o ⟨#[47]⟩ = some false) (h2 : gronx_zzContains.f k o ⟨#[45]⟩ = some false) (ha : strconv_Atoi.f o = some (n, none)) (hlo : rd t 0 ≤ n) (hhi : n ≤ rd t 1) (hp : pos ≠ 5) (hv : val = 0) (hn : n ≠ 0)  : OffC c val pos o false false := by
  intro w
  have hb := Aside0.mk hb
  have q1 : (o.toList == ([42] : List UInt8)) = false := beq_eq_false_iff_ne.mpr s1
  have q2 : (o.toList == ([63] : List UInt8)) = false := beq_eq_false_iff_ne.mpr s2
  have h1 := Aside0.mk h1
  have h2 := Aside0.mk h2
  have ha := Aside0.mk ha
  have qi0 : (0 < t.length) = True := eq_true (by omega)
  have qi1 : (0 < (t.length : Int)) = True := eq_true (by omega)
  have qi2 : (1 < t.length) = True := eq_true (by omega)
  have qi3 : (1 < (t.length : Int)) = True := eq_true (by omega)
  have g0 : ∃ lo, rd t 0 = lo := ⟨_, rfl⟩
  have g1 : ∃ hi, rd t 1 = hi := ⟨_, rfl⟩
  obtain ⟨lo, g0⟩ := g0
  obtain ⟨hi, g1⟩ := g1
  rw [g0] at hlo
  rw [g1] at hhi
  have n4 : ¬ n < lo := by omega
  have n5 : ¬ hi < n := by omega
  have e5 : ((pos : Int) == 5) = false := by simp; omega
  clear hp
  have f1 : (val == 0) = true := by simp [hv]
  have f2 : (n == 0) = false := by simp [hn]
  clear hv
  go_enter Tryz.func117, Tryz.ntmps117
  go_wp2_with (first | (go_at_call 132; refine (gronx_boundsByPos.calls k _ _ _ hb.out).mono ?_; rintro e w1 ⟨v0, rfl, hR, hb1⟩; obtain ⟨A, cc, rfl⟩ := Kd.R_slice hR) | (go_at_call 133; refine (gronx_zzContains.calls k _ _ _ _ h1.out).mono ?_; rintro e wz ⟨rfl, ⟨nd, rfl⟩⟩; clear h1) | (go_at_call 133; refine (gronx_zzContains.calls k _ _ _ _ h2.out).mono ?_; rintro e wz ⟨rfl, ⟨nd2, rfl⟩⟩; clear h2) | (go_at_call 136; refine (strconv_Atoi.calls _ _ _ _ ha.out).mono ?_; rintro e w2 ⟨rfl, hb2⟩; rw [errW_none]; obtain ⟨ad, rfl, y0, y1⟩ := two_int (Kd.R_reads' hR).2.2 rfl (by omega); have x0 := cell_after (by repeat (first | exact hb2 | exact below_step (by repeat (first | exact Below.refl _ _ | apply pw_below_drewN)) hb2)) y0; rw [g0] at x0; have x1 := cell_after (by repeat (first | exact hb2 | exact below_step (by repeat (first | exact Below.refl _ _ | apply pw_below_drewN)) hb2)) y1; rw [g1] at x1))
  go_ret2
  exact ⟨_, rfl, .inl ⟨rfl, rfl⟩, below_step (by repeat (first | exact hb1 | apply pw_below_drewN)) hb2⟩
set_option maxRecDepth 100000 in
set_option maxHeartbeats 800000 in
theorem offNum_nz (c : Nat) (o : ByteArray) (k : Nat) (val : Int) (t : List Int) (pos : Nat) (s1 : o.toList ≠ ([42] : List UInt8)) (s2 : o.toList ≠ ([63] : List UInt8)) (hb : gronx_boundsByPos.f k (pos : Int) = some t) (ht : t.length = 2) (n : Int) (h1 : gronx_zzContains.f k o ⟨#[47]⟩ = some false) (h2 : gronx_zzContains.f k o ⟨#[45]⟩ = some false) (ha : strconv_Atoi.f o = some (n, none)) (hlo : rd t 0 ≤ n) (hhi : n ≤ rd t 1) (hp : pos ≠ 5) (hv : val ≠ 0) (hn : n = 0)  : OffC c val pos o false false := by
  intro w
  have hb := Aside0.mk hb
  have q1 : (o.toList == ([42] : List UInt8)) = false := beq_eq_false_iff_ne.mpr s1
  have q2 : (o.toList == ([63] : List UInt8)) = false := beq_eq_false_iff_ne.mpr s2
  have h1 := Aside0.mk h1
  have h2 := Aside0.mk h2
  have ha := Aside0.mk ha
  have qi0 : (0 < t.length) = True := eq_true (by omega)
  have qi1 : (0 < (t.length : Int)) = True := eq_true (by omega)
  have qi2 : (1 < t.length) = True := eq_true (by omega)
  have qi3 : (1 < (t.length : Int)) = True := eq_true (by omega)
  have g0 : ∃ lo, rd t 0 = lo := ⟨_, rfl⟩
  have g1 : ∃ hi, rd t 1 = hi := ⟨_, rfl⟩
  obtain ⟨lo, g0⟩ := g0
  obtain ⟨hi, g1⟩ := g1
  rw [g0] at hlo
  rw [g1] at hhi
  have n4 : ¬ n < lo := by omega
  have n5 : ¬ hi < n := by omega
  have e5 : ((pos : Int) == 5) = false := by simp; omega
  clear hp
  have f1 : (val == 0) = false := by simp [hv]
  have f2 : (n == 0) = true := by simp [hn]
  clear hn
  go_enter Tryz.func117, Tryz.ntmps117
  go_wp2_with (first | (go_at_call 132; refine (gronx_boundsByPos.calls k _ _ _ hb.out).mono ?_; rintro e w1 ⟨v0, rfl, hR, hb1⟩; obtain ⟨A, cc, rfl⟩ := Kd.R_slice hR) | (go_at_call 133; refine (gronx_zzContains.calls k _ _ _ _ h1.out).mono ?_; rintro e wz ⟨rfl, ⟨nd, rfl⟩⟩; clear h1) | (go_at_call 133; refine (gronx_zzContains.calls k _ _ _ _ h2.out).mono ?_; rintro e wz ⟨rfl, ⟨nd2, rfl⟩⟩; clear h2) | (go_at_call 136; refine (strconv_Atoi.calls _ _ _ _ ha.out).mono ?_; rintro e w2 ⟨rfl, hb2⟩; rw [errW_none]; obtain ⟨ad, rfl, y0, y1⟩ := two_int (Kd.R_reads' hR).2.2 rfl (by omega); have x0 := cell_after (by repeat (first | exact hb2 | exact below_step (by repeat (first | exact Below.refl _ _ | apply pw_below_drewN)) hb2)) y0; rw [g0] at x0; have x1 := cell_after (by repeat (first | exact hb2 | exact below_step (by repeat (first | exact Below.refl _ _ | apply pw_below_drewN)) hb2)) y1; rw [g1] at x1))
  go_ret2
  exact ⟨_, rfl, .inl ⟨rfl, rfl⟩, below_step (by repeat (first | exact hb1 | apply pw_below_drewN)) hb2⟩
set_option maxRecDepth 100000 in
set_option maxHeartbeats 800000 in
theorem offNum_eq (c : Nat) (o : ByteArray) (k : Nat) (val : Int) (t : List Int) (pos : Nat) (s1 : o.toList ≠ ([42] : List UInt8)) (s2 : o.toList ≠ ([63] : List UInt8)) (hb : gronx_boundsByPos.f k (pos : Int) = some t) (ht : t.length = 2) (n : Int) (h1 : gronx_zzContains.f k o ⟨#[47]⟩ = some false) (h2 : gronx_zzContains.f k o ⟨#[45]⟩ = some false) (ha : strconv_Atoi.f o = some (n, none)) (hlo : rd t 0 ≤ n) (hhi : n ≤ rd t 1) (hp : pos ≠ 5) (hv : val ≠ 0) (hn0 : n ≠ 0) (hn : n = val)  : OffC c val pos o true false := by
  intro w
  have hb := Aside0.mk hb
  have q1 : (o.toList == ([42] : List UInt8)) = false := beq_eq_false_iff_ne.mpr s1
  have q2 : (o.toList == ([63] : List UInt8)) = false := beq_eq_false_iff_ne.mpr s2
  have h1 := Aside0.mk h1
  have h2 := Aside0.mk h2
  have ha := Aside0.mk ha
  have qi0 : (0 < t.length) = True := eq_true (by omega)
  have qi1 : (0 < (t.length : Int)) = True := eq_true (by omega)
  have qi2 : (1 < t.length) = True := eq_true (by omega)
  have qi3 : (1 < (t.length : Int)) = True := eq_true (by omega)
  have g0 : ∃ lo, rd t 0 = lo := ⟨_, rfl⟩
  have g1 : ∃ hi, rd t 1 = hi := ⟨_, rfl⟩
  obtain ⟨lo, g0⟩ := g0
  obtain ⟨hi, g1⟩ := g1
  rw [g0] at hlo
  rw [g1] at hhi
  have n4 : ¬ n < lo := by omega
  have n5 : ¬ hi < n := by omega
  have e5 : ((pos : Int) == 5) = false := by simp; omega
  clear hp
  have f1 : (val == 0) = false := by simp [hv]
  have f2 : (n == 0) = false := by simp [hn0]
  have f3 : (n == val) = true := by simp [hn]
  clear hn
  go_enter Tryz.func117, Tryz.ntmps117
  go_wp2_with (first | (go_at_call 132; refine (gronx_boundsByPos.calls k _ _ _ hb.out).mono ?_; rintro e w1 ⟨v0, rfl, hR, hb1⟩; obtain ⟨A, cc, rfl⟩ := Kd.R_slice hR) | (go_at_call 133; refine (gronx_zzContains.calls k _ _ _ _ h1.out).mono ?_; rintro e wz ⟨rfl, ⟨nd, rfl⟩⟩; clear h1) | (go_at_call 133; refine (gronx_zzContains.calls k _ _ _ _ h2.out).mono ?_; rintro e wz ⟨rfl, ⟨nd2, rfl⟩⟩; clear h2) | (go_at_call 136; refine (strconv_Atoi.calls _ _ _ _ ha.out).mono ?_; rintro e w2 ⟨rfl, hb2⟩; rw [errW_none]; obtain ⟨ad, rfl, y0, y1⟩ := two_int (Kd.R_reads' hR).2.2 rfl (by omega); have x0 := cell_after (by repeat (first | exact hb2 | exact below_step (by repeat (first | exact Below.refl _ _ | apply pw_below_drewN)) hb2)) y0; rw [g0] at x0; have x1 := cell_after (by repeat (first | exact hb2 | exact below_step (by repeat (first | exact Below.refl _ _ | apply pw_below_drewN)) hb2)) y1; rw [g1] at x1))
  go_ret2
  exact ⟨_, rfl, .inl ⟨rfl, rfl⟩, below_step (by repeat (first | exact hb1 | apply pw_below_drewN)) hb2⟩
set_option maxRecDepth 100000 in
set_option maxHeartbeats 800000 in
theorem offNum_ne (c : Nat) (o : ByteArray) (k : Nat) (val : Int) (t : List Int) (pos : Nat) (s1 : o.toList ≠ ([42] : List UInt8)) (s2 : o.toList ≠ ([63] : List UInt8)) (hb : gronx_boundsByPos.f k (pos : Int) = some t) (ht : t.length = 2) (n : Int) (h1 : gronx_zzContains.f k o ⟨#[47]⟩ = some false) (h2 : gronx_zzContains.f k o ⟨#[45]⟩ = some false) (ha : strconv_Atoi.f o = some (n, none)) (hlo : rd t 0 ≤ n) (hhi : n ≤ rd t 1) (hp : pos ≠ 5) (hv : val ≠ 0) (hn0 : n ≠ 0) (hn : n ≠ val)  : OffC c val pos o false false := by
  intro w
  have hb := Aside0.mk hb
  have q1 : (o.toList == ([42] : List UInt8)) = false := beq_eq_false_iff_ne.mpr s1
  have q2 : (o.toList == ([63] : List UInt8)) = false := beq_eq_false_iff_ne.mpr s2
  have h1 := Aside0.mk h1
  have h2 := Aside0.mk h2
  have ha := Aside0.mk ha
  have qi0 : (0 < t.length) = True := eq_true (by omega)
  have qi1 : (0 < (t.length : Int)) = True := eq_true (by omega)
  have qi2 : (1 < t.length) = True := eq_true (by omega)
  have qi3 : (1 < (t.length : Int)) = True := eq_true (by omega)
  have g0 : ∃ lo, rd t 0 = lo := ⟨_, rfl⟩
  have g1 : ∃ hi, rd t 1 = hi := ⟨_, rfl⟩
  obtain ⟨lo, g0⟩ := g0
  obtain ⟨hi, g1⟩ := g1
  rw [g0] at hlo
  rw [g1] at hhi
  have n4 : ¬ n < lo := by omega
  have n5 : ¬ hi < n := by omega
  have e5 : ((pos : Int) == 5) = false := by simp; omega
  clear hp
  have f1 : (val == 0) = false := by simp [hv]
  have f2 : (n == 0) = false := by simp [hn0]
  have f3 : (n == val) = false := by simp [hn]
  go_enter Tryz.func117, Tryz.ntmps117
  go_wp2_with (first | (go_at_call 132; refine (gronx_boundsByPos.calls k _ _ _ hb.out).mono ?_; rintro e w1 ⟨v0, rfl, hR, hb1⟩; obtain ⟨A, cc, rfl⟩ := Kd.R_slice hR) | (go_at_call 133; refine (gronx_zzContains.calls k _ _ _ _ h1.out).mono ?_; rintro e wz ⟨rfl, ⟨nd, rfl⟩⟩; clear h1) | (go_at_call 133; refine (gronx_zzContains.calls k _ _ _ _ h2.out).mono ?_; rintro e wz ⟨rfl, ⟨nd2, rfl⟩⟩; clear h2) | (go_at_call 136; refine (strconv_Atoi.calls _ _ _ _ ha.out).mono ?_; rintro e w2 ⟨rfl, hb2⟩; rw [errW_none]; obtain ⟨ad, rfl, y0, y1⟩ := two_int (Kd.R_reads' hR).2.2 rfl (by omega); have x0 := cell_after (by repeat (first | exact hb2 | exact below_step (by repeat (first | exact Below.refl _ _ | apply pw_below_drewN)) hb2)) y0; rw [g0] at x0; have x1 := cell_after (by repeat (first | exact hb2 | exact below_step (by repeat (first | exact Below.refl _ _ | apply pw_below_drewN)) hb2)) y1; rw [g1] at x1))
  go_ret2
  exact ⟨_, rfl, .inl ⟨rfl, rfl⟩, below_step (by repeat (first | exact hb1 | apply pw_below_drewN)) hb2⟩
end Go.Proofs.YtemgofomhjabpaaGreatDoor.Core
namespace Go.Proofs.YtemgofomhjabpaaGreatDoor.Core
open Go.RowKit Go.Proofs.YtemgofomhjabpaaGreatDoorW.PrintWords
theorem decN_small (n : Nat) (h : n < 100) : decN n = if n < 10 then [UInt8.ofNat (48 + n)] else [UInt8.ofNat (48 + n / 10), UInt8.ofNat (48 + n % 10)] := by
  split
  · rename_i h1; exact decN_lt n h1
  · rename_i h1; rw [decN_ge n h1, decN_lt (n / 10) (by omega)]; rfl
theorem atoi_table : ∀ n : Fin 100, Lib.atoi (if n.val < 10 then [UInt8.ofNat (48 + n.val)] else [UInt8.ofNat (48 + n.val / 10), UInt8.ofNat (48 + n.val % 10)]) = some (n.val : Int) := by decide +kernel
theorem atoi_two (n : Nat) (h : n < 100) : strconv_Atoi.f (B (decN n)) = some ((n : Int), none) := by
  unfold strconv_Atoi.f
  have hl := decN_length n 1 (by simpa using h)
  rw [B_size, if_pos (by omega), B_data, decN_small n h, atoi_table ⟨n, h⟩]
  rfl
theorem dec_no (n : Nat) (c : UInt8) (hc : c.toNat < 48 ∨ 57 < c.toNat) : c ∉ decN n := fun e => by have := decN_digit n c e; omega
def loB (i : Nat) : Int := if i = 3 ∨ i = 4 then 1 else 0
def hiB (i : Nat) : Int := [59, 59, 23, 31, 12, 7, 9999].getD i 0
theorem bounds_ev (i : Nat) (hi : i ≤ 6) : Ev (fun k => gronx_boundsByPos.f k (i : Int)) [loB i, hiB i] := by
  match i, hi with
  | 0, _ => exact Ev.done fun k => rfl
  | 1, _ => exact Ev.done fun k => rfl
  | 2, _ => exact Ev.done fun k => rfl
  | 3, _ => exact Ev.done fun k => rfl
  | 4, _ => exact Ev.done fun k => rfl
  | 5, _ => exact Ev.done fun k => rfl
  | 6, _ => exact Ev.done fun k => rfl
theorem contains_no (c : UInt8) (l : List UInt8) (h : c ∉ l) (hl : l.length < 4611686018427387904) : Ev (fun k => gronx_zzContains.f k (B l) (B [c])) false := by
  unfold gronx_zzContains.f
  have := zzIndex_ev l [c] (by simp) hl (by simp)
  rw [idxL_one_none c l h 0] at this
  exact Ev.bind this (Ev.const rfl)
theorem contains_yes (c : UInt8) (p r : List UInt8) (h : c ∉ p) (hl : (p ++ c :: r).length < 4611686018427387904) : Ev (fun k => gronx_zzContains.f k (B (p ++ c :: r)) (B [c])) true := by
  unfold gronx_zzContains.f
  have := zzIndex_ev (p ++ c :: r) [c] (by simp) hl (by simp)
  rw [idxL_one_at c p r h 0] at this
  exact Ev.bind this (Ev.const (by rw [decide_eq_true (by omega)]))
theorem idxL_ge (m l : List UInt8) (i : Nat) : idxL m l i = -1 ∨ (i : Int) ≤ idxL m l i := by
  induction l generalizing i with
  | nil => exact Or.inl rfl
  | cons b t ih =>
    unfold idxL
    split
    · split
      · exact Or.inr (Int.le_refl _)
      · rcases ih (i + 1) with h | h
        · exact Or.inl h
        · exact Or.inr (by omega)
    · exact Or.inl rfl
theorem idxL_head (m : List UInt8) (b : UInt8) (t : List UInt8) (h : m.head? ≠ some b) (hm : m ≠ []) : idxL m (b :: t) 0 ≠ 0 := by
  unfold idxL
  split
  · rw [if_neg (fun e => h (by rw [← e]; cases m with | nil => exact absurd rfl hm | cons a s => simp))]
    have := idxL_ge m t 1
    simp only [Nat.zero_add] at *
    omega
  · decide
theorem idxL_starSlash (r : List UInt8) : idxL [42, 47] (42 :: 47 :: r) 0 = 0 := by
  unfold idxL
  rw [if_pos (by simp), if_pos (by simp)]
  rfl
theorem stepRange_ev (val en step : Int) (s0 : 1 ≤ step) (s1 : step ≤ 1000) (e1 : en ≤ 100000) :
    ∀ (d : Nat) (start : Int), (en - start).toNat ≤ d → 0 ≤ start → start ≤ 200000 → Ev (fun k => gronx_inStepRange.l0 k val en step start) (decide (start ≤ val ∧ val ≤ en ∧ (val - start) % step = 0)) := by
  intro d
  induction d with
  | zero =>
    intro start hd h0 h1
    by_cases hs : start ≤ en
    · have he : start = en := by omega
      subst he
      by_cases hv : start ≤ val
      · by_cases hq : start = val
        · subst hq
          refine Ev.step (f := fun k => gronx_inStepRange.j1 k start start step start true) (fun k => ?_) (Ev.done fun k => ?_)
          · simp only [gronx_inStepRange.l0]; rw [if_pos hs, decide_eq_true hv]
          · simp only [gronx_inStepRange.j1]; simp
        · refine Ev.step (f := fun k => gronx_inStepRange.j1 k val start step start true) (fun k => ?_) (Ev.step (f := fun k => gronx_inStepRange.l0 k val start step (start + step)) (fun k => ?_) (Ev.step (f := fun k => gronx_inStepRange.j1 k val start step (start + step) false) (fun k => ?_) (Ev.done fun k => ?_)))
          · simp only [gronx_inStepRange.l0]; rw [if_pos hs, decide_eq_true hv]
          · simp only [gronx_inStepRange.j1]; rw [if_pos trivial, if_neg hq, wrap64_id (by omega) (by omega)]
          · simp only [gronx_inStepRange.l0]; rw [if_neg (by omega)]
          · simp only [gronx_inStepRange.j1]; rw [if_neg (by simp), decide_eq_false (by omega)]
      · refine Ev.step (f := fun k => gronx_inStepRange.j1 k val start step start false) (fun k => ?_) (Ev.done fun k => ?_)
        · simp only [gronx_inStepRange.l0]; rw [if_pos hs, decide_eq_false hv]
        · simp only [gronx_inStepRange.j1]; rw [if_neg (by simp), decide_eq_false (by omega)]
    · refine Ev.step (f := fun k => gronx_inStepRange.j1 k val en step start false) (fun k => ?_) (Ev.done fun k => ?_)
      · simp only [gronx_inStepRange.l0]; rw [if_neg hs]
      · simp only [gronx_inStepRange.j1]; rw [if_neg (by simp), decide_eq_false (by omega)]
  | succ d ih =>
    intro start hd h0 h1
    by_cases hs : start ≤ en
    · by_cases hv : start ≤ val
      · by_cases hq : start = val
        · subst hq
          refine Ev.step (f := fun k => gronx_inStepRange.j1 k start en step start true) (fun k => ?_) (Ev.done fun k => ?_)
          · simp only [gronx_inStepRange.l0]; rw [if_pos hs, decide_eq_true hv]
          · simp only [gronx_inStepRange.j1]; simp [hs]
        · have hrec := ih (start + step) (by omega) (by omega) (by omega)
          have he : decide (start + step ≤ val ∧ val ≤ en ∧ (val - (start + step)) % step = 0) = decide (start ≤ val ∧ val ≤ en ∧ (val - start) % step = 0) := by
            have e1 : (val - (start + step)) % step = (val - start) % step := by
              rw [show val - (start + step) = (val - start) - step by omega, Int.sub_emod_right]
            rw [e1]
            by_cases hz : (val - start) % step = 0
            · have : step ≤ val - start := Int.le_of_dvd (by omega) (Int.dvd_of_emod_eq_zero hz)
              have h2 : start + step ≤ val ↔ start ≤ val := by omega
              simp only [hz, h2]
            · simp [hz]
          rw [he] at hrec
          refine Ev.step (f := fun k => gronx_inStepRange.j1 k val en step start true) (fun k => ?_) (Ev.step (f := fun k => gronx_inStepRange.l0 k val en step (start + step)) (fun k => ?_) hrec)
          · simp only [gronx_inStepRange.l0]; rw [if_pos hs, decide_eq_true hv]
          · simp only [gronx_inStepRange.j1]; rw [if_pos trivial, if_neg hq, wrap64_id (by omega) (by omega)]
      · refine Ev.step (f := fun k => gronx_inStepRange.j1 k val en step start false) (fun k => ?_) (Ev.done fun k => ?_)
        · simp only [gronx_inStepRange.l0]; rw [if_pos hs, decide_eq_false hv]
        · simp only [gronx_inStepRange.j1]; rw [if_neg (by simp), decide_eq_false (by omega)]
    · refine Ev.step (f := fun k => gronx_inStepRange.j1 k val en step start false) (fun k => ?_) (Ev.done fun k => ?_)
      · simp only [gronx_inStepRange.l0]; rw [if_neg hs]
      · simp only [gronx_inStepRange.j1]; rw [if_neg (by simp), decide_eq_false (by omega)]
theorem inStepRange_ev (val start en step : Int) (s0 : 1 ≤ step) (s1 : step ≤ 1000) (e1 : en ≤ 100000) (h0 : 0 ≤ start) (h1 : start ≤ 200000) :
    Ev (fun k => gronx_inStepRange.f k val start en step) (decide (start ≤ val ∧ val ≤ en ∧ (val - start) % step = 0)) := stepRange_ev val en step s0 s1 e1 _ start (Nat.le_refl _) h0 h1
theorem Ev.succ {α : Type} {g : Nat → Option α} {r : α} (h : Ev (fun k => g (k + 1)) r) : Ev g r := Ev.step (fun _ => rfl) h
end Go.Proofs.YtemgofomhjabpaaGreatDoor.Core
namespace Go.Proofs.YtemgofomhjabpaaGreatDoor.Core
open Go.RowKit Go.Proofs.YtemgofomhjabpaaGreatDoorW.PrintWords
theorem dec_head' (n : Nat) (r : List UInt8) : ∃ b t, decN n ++ r = b :: t ∧ 48 ≤ b.toNat ∧ b.toNat ≤ 57 := by
  match h : decN n, decN_ne n with
  | b :: t, _ => exact ⟨b, t ++ r, rfl, decN_digit n b (by rw [h]; simp)⟩
theorem dec_ne' (n : Nat) (r : List UInt8) (c : UInt8) (t : List UInt8) (hc : c.toNat < 48 ∨ 57 < c.toNat) : decN n ++ r ≠ c :: t := by
  obtain ⟨b, s, e, h1, h2⟩ := dec_head' n r
  rw [e]
  intro h
  have := (List.cons.inj h).1
  subst this
  omega
theorem split_two' (c : UInt8) (p q : List UInt8) (hp : c ∉ p) (hq : c ∉ q) (hl : (p ++ c :: q).length < 8796093022208) : Ev (fun k => gronx_zzSplit.f k (B (p ++ c :: q)) (B [c])) [B p, B q] := by
  have := zzSplit_ev c (p ++ c :: q) hl
  rw [splitL_at c p q hp, splitL_none c q hq] at this
  exact this
theorem idx_zero' (a : Nat) (r : List UInt8) : idxL [48, 47] (decN a ++ 45 :: r) 0 ≠ 0 := by
  obtain ⟨d, t, e, h1, h2⟩ := dec_head' a []
  rw [List.append_nil] at e
  rw [e, List.cons_append]
  intro h
  unfold idxL at h
  split at h
  · split at h
    · rename_i h3
      have h4 : (t ++ 45 :: r).head? = some 47 := by
        have : (d :: (t ++ 45 :: r)).take 2 = [48, 47] := h3
        cases hh : t ++ 45 :: r with
        | nil => rw [hh] at this; simp at this
        | cons u v => rw [hh] at this; simp at this; simp [this.2]
      cases t with
      | nil => simp at h4
      | cons u v =>
        have hu : u = 47 := by simpa using h4
        have := decN_digit a u (by rw [e]; simp)
        subst hu
        simp at this
    · have := idxL_ge [48, 47] (t ++ 45 :: r) (0 + 1)
      omega
  · exact absurd h (by decide)
theorem offC_num (c : Nat) (n : Nat) (hn : n < 100) (i : Nat) (hi : i ≤ 6) (val : Int) (lo : loB i ≤ (n : Int)) (hi' : (n : Int) ≤ hiB i) (h5 : i = 5 → n ≤ 6) : OffC c val i (B (decN n)) (decide ((n : Int) = val)) false := by
  have hl := decN_length n 1 (by simpa using hn)
  obtain ⟨K1, hK1⟩ := bounds_ev i hi
  obtain ⟨K2, hK2⟩ := contains_no 47 _ (dec_no n 47 (by decide)) (by omega)
  obtain ⟨K3, hK3⟩ := contains_no 45 _ (dec_no n 45 (by decide)) (by omega)
  have f1 := hK1 (max K1 (max K2 K3)) (by omega)
  have f2 := hK2 (max K1 (max K2 K3)) (by omega)
  have f3 := hK3 (max K1 (max K2 K3)) (by omega)
  have s1 : (B (decN n)).toList ≠ ([42] : List UInt8) := by rw [B_list]; simpa using dec_ne' n [] 42 [] (by decide)
  have s2 : (B (decN n)).toList ≠ ([63] : List UInt8) := by rw [B_list]; simpa using dec_ne' n [] 63 [] (by decide)
  have ha := atoi_two n hn
  by_cases e5 : i = 5
  · by_cases e : (n : Int) = val
    · rw [decide_eq_true e]; exact offNum_wd_eq c _ _ val _ i s1 s2 f1 rfl n f2 f3 ha lo hi' e5 e
    · rw [decide_eq_false e]; exact offNum_wd_ne c _ _ val _ i s1 s2 f1 rfl n f2 f3 ha lo hi' e5 (by have := h5 e5; omega) e
  · by_cases v0 : val = 0
    · by_cases n0 : (n : Int) = 0
      · rw [decide_eq_true (by omega)]; exact offNum_zz c _ _ val _ i s1 s2 f1 rfl n f2 f3 ha lo hi' e5 v0 n0
      · rw [decide_eq_false (by omega)]; exact offNum_zn c _ _ val _ i s1 s2 f1 rfl n f2 f3 ha lo hi' e5 v0 n0
    · by_cases n0 : (n : Int) = 0
      · rw [decide_eq_false (by omega)]; exact offNum_nz c _ _ val _ i s1 s2 f1 rfl n f2 f3 ha lo hi' e5 v0 n0
      · by_cases e : (n : Int) = val
        · rw [decide_eq_true e]; exact offNum_eq c _ _ val _ i s1 s2 f1 rfl n f2 f3 ha lo hi' e5 v0 n0 e
        · rw [decide_eq_false e]; exact offNum_ne c _ _ val _ i s1 s2 f1 rfl n f2 f3 ha lo hi' e5 v0 n0 e
theorem offC_range (c : Nat) (a b : Nat) (hb : b < 100) (hab : a ≤ b) (i : Nat) (hi : i ≤ 6) (val : Int) (lo : loB i ≤ (a : Int)) (hi' : (b : Int) ≤ hiB i) (h5 : i = 5 → b ≤ 6) : OffC c val i (B (decN a ++ 45 :: decN b)) (decide ((a : Int) ≤ val ∧ val ≤ (b : Int))) false := by
  have la := decN_length a 1 (by omega)
  have lb := decN_length b 1 (by omega)
  have hlen : (decN a ++ 45 :: decN b).length ≤ 5 := by simp; omega
  obtain ⟨K1, hK1⟩ := bounds_ev i hi
  obtain ⟨K2, hK2⟩ := contains_no 47 (decN a ++ 45 :: decN b) (by simp [dec_no a 47 (by decide), dec_no b 47 (by decide)]) (by omega)
  obtain ⟨K3, hK3⟩ := contains_yes 45 _ _ (dec_no a 45 (by decide)) (by omega : (decN a ++ 45 :: decN b).length < _)
  obtain ⟨K4, hK4⟩ := split_two' 45 _ _ (dec_no a 45 (by decide)) (dec_no b 45 (by decide)) (by omega : (decN a ++ 45 :: decN b).length < _)
  have f1 := hK1 (max (max K1 K4) (max K2 K3)) (by omega)
  have f2 := hK2 (max (max K1 K4) (max K2 K3)) (by omega)
  have f3 := hK3 (max (max K1 K4) (max K2 K3)) (by omega)
  have f4 := hK4 (max (max K1 K4) (max K2 K3)) (by omega)
  have s1 : (B (decN a ++ 45 :: decN b)).toList ≠ ([42] : List UInt8) := by rw [B_list]; exact dec_ne' a _ 42 [] (by decide)
  have s2 : (B (decN a ++ 45 :: decN b)).toList ≠ ([63] : List UInt8) := by rw [B_list]; exact dec_ne' a _ 63 [] (by decide)
  have a0 := atoi_two a (by omega)
  have b0 := atoi_two b hb
  refine offRange_w c _ _ val [loB i, hiB i] i s1 s2 f1 f2 f3 _ ?_
  by_cases e5 : i = 5
  · have e : ((i : Int) == 5) = true := by simp; omega
    rw [e]
    have b6 := h5 e5
    by_cases hv : (a : Int) ≤ val
    · rw [show decide ((a : Int) ≤ val ∧ val ≤ (b : Int)) = decide (val ≤ (b : Int)) from decide_eq_decide.mpr ⟨fun h => h.2, fun h => ⟨hv, h⟩⟩]
      exact range_in_wd val a b _ _ _ _ f4 rfl a0 b0 rfl (by omega) lo hi' (by omega) hv
    · rw [decide_eq_false (fun h => hv h.1)]
      exact range_out_wd val a b _ _ _ _ f4 rfl a0 b0 rfl (by omega) lo hi' (by omega) hv
  · have e : ((i : Int) == 5) = false := by simp; omega
    rw [e]
    by_cases hv : (a : Int) ≤ val
    · rw [show decide ((a : Int) ≤ val ∧ val ≤ (b : Int)) = decide (val ≤ (b : Int)) from decide_eq_decide.mpr ⟨fun h => h.2, fun h => ⟨hv, h⟩⟩]
      exact range_in val a b _ _ _ _ f4 rfl a0 b0 rfl (by omega) lo hi' hv
    · rw [decide_eq_false (fun h => hv h.1)]
      exact range_out val a b _ _ _ _ f4 rfl a0 b0 rfl (by omega) lo hi' hv
theorem offC_sstep (c : Nat) (s : Nat) (s0 : 1 ≤ s) (s1 : s < 100) (i : Nat) (hi : i ≤ 6) (val : Int) (lo : loB i ≤ val) (hv : val ≤ 10000) : OffC c val i (B (42 :: 47 :: decN s)) (decide ((val - loB i) % (s : Int) = 0)) false := by
  have ls := decN_length s 1 (by simpa using s1)
  have hb : 0 ≤ loB i := by unfold loB; split <;> omega
  have hlen : ([42] ++ 47 :: decN s).length ≤ 5 := by simp; omega
  obtain ⟨K1, hK1⟩ := bounds_ev i hi
  obtain ⟨K2, hK2⟩ := contains_yes 47 [42] (decN s) (by simp) (by omega)
  obtain ⟨K3, hK3⟩ := split_two' 47 [42] (decN s) (by simp) (dec_no s 47 (by decide)) (by omega)
  obtain ⟨K4, hK4⟩ := zzIndex_ev ([42] ++ 47 :: decN s) [42, 47] (by simp) (by omega) (by simp)
  have f1 := hK1 (max (max K1 K4) (max K2 K3)) (by omega)
  have f2 := hK2 (max (max K1 K4) (max K2 K3)) (by omega)
  have f3 := hK3 (max (max K1 K4) (max K2 K3)) (by omega)
  have f4 := hK4 (max (max K1 K4) (max K2 K3)) (by omega)
  rw [show idxL [42, 47] ([42] ++ 47 :: decN s) 0 = 0 from idxL_starSlash _] at f4
  exact offStep_w c _ _ val [loB i, hiB i] i (by rw [B_list]; simp) (by rw [B_list]; simp) f1 f2 _ (sstep_w val s _ _ _ _ _ f3 rfl (atoi_two s s1) (by omega) (by omega) f4 rfl lo (by omega) hb)
theorem offC_rstep (c : Nat) (a b s : Nat) (hb : b < 100) (hab : a ≤ b) (s0 : 1 ≤ s) (s1 : s < 100) (i : Nat) (hi : i ≤ 6) (val : Int) (lo : loB i ≤ (a : Int)) (hi' : (b : Int) ≤ hiB i) (h5 : i = 5 → b ≤ 6) : OffC c val i (B (decN a ++ 45 :: decN b ++ 47 :: decN s)) (decide ((a : Int) ≤ val ∧ val ≤ (b : Int) ∧ (val - a) % (s : Int) = 0)) false := by
  have la := decN_length a 1 (by omega)
  have lb := decN_length b 1 (by omega)
  have ls := decN_length s 1 (by omega)
  have hlen : (decN a ++ 45 :: decN b ++ 47 :: decN s).length ≤ 8 := by simp; omega
  have hlen2 : (decN a ++ 45 :: decN b).length ≤ 8 := by simp; omega
  have hno : (47 : UInt8) ∉ decN a ++ 45 :: decN b := by simp [dec_no a 47 (by decide), dec_no b 47 (by decide)]
  have n1 : idxL [42, 47] (decN a ++ 45 :: decN b ++ 47 :: decN s) 0 ≠ 0 := by
    obtain ⟨d, t, e, h1, h2⟩ := dec_head' a (45 :: decN b ++ 47 :: decN s)
    rw [List.append_assoc, e]
    refine idxL_head _ d t (fun h => ?_) (by simp)
    have : d = 42 := by simpa using h.symm
    subst this; simp at h1
  have n2 : idxL [48, 47] (decN a ++ 45 :: decN b ++ 47 :: decN s) 0 ≠ 0 := by rw [List.append_assoc]; exact idx_zero' a _
  have hg : ∀ v : Int, Ev (fun k => gronx_inStepRange.f k v a b s) (decide ((a : Int) ≤ v ∧ v ≤ (b : Int) ∧ (v - a) % (s : Int) = 0)) := fun v => inStepRange_ev v a b s (by omega) (by omega) (by omega) (by omega) (by omega)
  obtain ⟨K1, hK1⟩ := bounds_ev i hi
  obtain ⟨K2, hK2⟩ := contains_yes 47 (decN a ++ 45 :: decN b) (decN s) hno (by omega)
  obtain ⟨K3, hK3⟩ := split_two' 47 (decN a ++ 45 :: decN b) (decN s) hno (dec_no s 47 (by decide)) (by omega)
  obtain ⟨K4, hK4⟩ := zzIndex_ev (decN a ++ 45 :: decN b ++ 47 :: decN s) [42, 47] (by simp) (by omega) (by simp)
  obtain ⟨K5, hK5⟩ := zzIndex_ev (decN a ++ 45 :: decN b ++ 47 :: decN s) [48, 47] (by simp) (by omega) (by simp)
  obtain ⟨K6, hK6⟩ := split_two' 45 (decN a) (decN b) (dec_no a 45 (by decide)) (dec_no b 45 (by decide)) (by omega)
  obtain ⟨K7, hK7⟩ := hg val
  obtain ⟨K8, hK8⟩ := hg 0
  obtain ⟨K9, hK9⟩ := hg 7
  obtain ⟨K, hK⟩ : ∃ K, K1 ≤ K ∧ K2 ≤ K ∧ K3 ≤ K ∧ K4 ≤ K ∧ K5 ≤ K ∧ K6 ≤ K ∧ K7 ≤ K ∧ K8 ≤ K ∧ K9 ≤ K := ⟨K1 + K2 + K3 + K4 + K5 + K6 + K7 + K8 + K9, by omega⟩
  have f1 := hK1 K (by omega)
  have f2 := hK2 K (by omega)
  have f3 := hK3 K (by omega)
  have f4 := hK4 K (by omega)
  have f5 := hK5 K (by omega)
  have f6 := hK6 K (by omega)
  have f7 := hK7 K (by omega)
  have f8 := hK8 K (by omega)
  have f9 := hK9 K (by omega)
  have a0 := atoi_two a (by omega)
  have b0 := atoi_two b hb
  have s0' := atoi_two s s1
  refine offStep_w c _ K val [loB i, hiB i] i (by rw [B_list, List.append_assoc]; exact dec_ne' a _ 42 [] (by decide)) (by rw [B_list, List.append_assoc]; exact dec_ne' a _ 63 [] (by decide)) f1 f2 _ ?_
  by_cases e5 : i = 5
  · have e : ((i : Int) == 5) = true := by simp; omega
    rw [e]
    have b6 := h5 e5
    by_cases hv : val = 0
    · subst hv
      by_cases hq : (a : Int) ≤ 0 ∧ (0 : Int) ≤ (b : Int) ∧ ((0 : Int) - a) % (s : Int) = 0
      · rw [decide_eq_true hq] at f8 ⊢
        exact rstep_zero_yes s a b _ [loB i, hiB i] K _ _ _ _ f3 rfl s0' (by omega) f4 n1 f5 n2 f6 rfl a0 b0 rfl (by omega) lo hi' (by omega) f8
      · rw [decide_eq_false hq] at f8 ⊢
        rw [decide_eq_false (by omega)] at f9
        exact rstep_zero_no s a b _ [loB i, hiB i] K _ _ _ _ f3 rfl s0' (by omega) f4 n1 f5 n2 f6 rfl a0 b0 rfl (by omega) lo hi' (by omega) _ f8 f9
    · exact rstep_wd val s a b _ [loB i, hiB i] K _ _ _ _ f3 rfl s0' (by omega) f4 n1 f5 n2 f6 rfl a0 b0 rfl (by omega) lo hi' (by omega) hv _ f7
  · have e : ((i : Int) == 5) = false := by simp; omega
    rw [e]
    exact rstep_plain val s a b _ [loB i, hiB i] K _ _ _ _ f3 rfl s0' (by omega) f4 n1 f5 n2 f6 rfl a0 b0 rfl (by omega) lo hi' _ f7
end Go.Proofs.YtemgofomhjabpaaGreatDoor.Core
namespace Go.Proofs.YtemgofomhjabpaaGreatDoor.Core
open Go.RowKit Go.Proofs.YtemgofomhjabpaaGreatDoorW.PrintWords
theorem decInt (n : Int) (h : 0 ≤ n) : ((n.toNat : Nat) : Int) = n := by omega
theorem hiB_ge (i : Nat) (hi : i < 6) : highI i ≤ hiB i ∧ loB i = lowI i ∧ (i = 5 → highI i ≤ 6) := by
  match i, hi with
  | 0, _ | 1, _ | 2, _ | 3, _ | 4, _ | 5, _ => decide
theorem offC_item (c : Nat) (i : Nat) (hi : i < 6) (x : It) (hg : goodItem i x = true) (n : Int) (n0 : lowI i ≤ n) (n1 : n ≤ highI i) :
    OffC c n i (B (itemL x)) (hasIt i x n) false := by
  obtain ⟨s1, s2, hr⟩ := goodItem_spec hg
  obtain ⟨b1, b2, b3⟩ := hiB_ge i hi
  have hlo := lowI_ge i
  have hle := highI_le i
  by_cases h0 : x.f0 = true
  · have e0 : hasIt i x n = decide ((n - lowI i) % x.f3 = 0) := by simp [hasIt, h0, n0, n1]
    by_cases hs : 1 < x.f3
    · have := offC_sstep c x.f3.toNat (by omega) (by omega) i (by omega) n (by omega) (by omega)
      rw [decInt _ (by omega), b2] at this
      rw [e0, show itemL x = 42 :: 47 :: decN x.f3.toNat by simp [itemL, h0, stepL, hs]]
      exact this
    · have h1 : x.f3 = 1 := by omega
      rw [e0, show itemL x = [42] by simp [itemL, h0, stepL, hs], h1, decide_eq_true (by omega)]
      exact offStar_w c n i
  · have h0' : x.f0 = false := by simpa using h0
    obtain ⟨r1, r2, r3, r4, r5⟩ := hr h0'
    have e0 : hasIt i x n = decide (x.f1 ≤ n ∧ n ≤ x.f2 ∧ (n - x.f1) % x.f3 = 0) := by simp [hasIt, h0']
    by_cases hs : 1 < x.f3
    · have := offC_rstep c x.f1.toNat x.f2.toNat x.f3.toNat (by omega) (by omega) (by omega) (by omega) i (by omega) n (by omega) (by omega) (fun h => by have := b3 h; omega)
      rw [decInt _ (by omega), decInt _ (by omega), decInt _ (by omega)] at this
      rw [e0, show itemL x = decN x.f1.toNat ++ 45 :: decN x.f2.toNat ++ 47 :: decN x.f3.toNat by simp [itemL, h0', stepL, hs]]
      exact this
    · have h1 : x.f3 = 1 := by omega
      by_cases hq : x.f1 < x.f2
      · have := offC_range c x.f1.toNat x.f2.toNat (by omega) (by omega) i (by omega) n (by omega) (by omega) (fun h => by have := b3 h; omega)
        rw [decInt _ (by omega), decInt _ (by omega)] at this
        rw [e0, show itemL x = decN x.f1.toNat ++ 45 :: decN x.f2.toNat by simp [itemL, h0', stepL, hs, hq], h1, show decide (x.f1 ≤ n ∧ n ≤ x.f2 ∧ (n - x.f1) % 1 = 0) = decide (x.f1 ≤ n ∧ n ≤ x.f2) by simp [Int.emod_one]]
        exact this
      · have := offC_num c x.f1.toNat (by omega) i (by omega) n (by omega) (by omega) (fun h => by have := b3 h; omega)
        rw [decInt _ (by omega)] at this
        rw [e0, show itemL x = decN x.f1.toNat by simp [itemL, h0', stepL, hs, hq], h1, show decide (x.f1 ≤ n ∧ n ≤ x.f2 ∧ (n - x.f1) % 1 = 0) = decide (x.f1 = n) by simp only [Int.emod_one, and_true]; exact decide_eq_decide.mpr (by omega)]
        exact this
end Go.Proofs.YtemgofomhjabpaaGreatDoor.Core
namespace Go.Proofs.YtemgofomhjabpaaGreatDoor.Core
open Go.RowKit Go.Proofs.YtemgofomhjabpaaGreatDoorW.PrintWords
theorem any_from (l m : List UInt8) (hl : l.length < 4611686018427387904) (hm : m.length < 4611686018427387904) :
    ∀ (rest : List UInt8) (i : Nat), l.drop i = rest → i ≤ l.length → Ev (fun k => gronx_zzContainsAny.l0 k (B l) (B m) (i : Int)) (rest.any fun b => m.contains b) := by
  intro rest
  induction rest with
  | nil =>
    intro i hi hil
    have hlen : l.length ≤ i := List.drop_eq_nil_iff.1 hi
    refine Ev.done fun k => ?_
    simp only [gronx_zzContainsAny.l0, B_size]
    rw [if_neg (by omega)]
    rfl
  | cons b t ih =>
    intro i hi hil
    have hlen : t.length + 1 = l.length - i := by have := congrArg List.length hi; simpa using this.symm
    have hlt : i < l.length := by omega
    have hb : l[i] = b := by
      have := List.drop_eq_getElem_cons hlt
      rw [hi] at this
      exact (List.cons.inj this).1.symm
    have ht : l.drop (i + 1) = t := by rw [← List.drop_drop, hi]; rfl
    have hrec := ih (i + 1) ht (by omega)
    have inner : ∀ (rm : List UInt8) (j : Nat), m.drop j = rm → j ≤ m.length → Ev (fun k => gronx_zzContainsAny.l1 k (B l) (B m) (i : Int) (j : Int)) (rm.contains b || t.any fun b => m.contains b) := by
      intro rm
      induction rm with
      | nil =>
        intro j hj hjl
        have hlen : m.length ≤ j := List.drop_eq_nil_iff.1 hj
        refine Ev.step (f := fun k => gronx_zzContainsAny.l0 k (B l) (B m) ((i + 1 : Nat) : Int)) (fun k => ?_) (by simpa using hrec)
        simp only [gronx_zzContainsAny.l1, B_size]
        rw [if_neg (by omega), wrap64_nat i (by omega)]
      | cons c s ihs =>
        intro j hj hjl
        have hlen : s.length + 1 = m.length - j := by have := congrArg List.length hj; simpa using this.symm
        have hjt : j < m.length := by omega
        have hc : m[j] = c := by
          have := List.drop_eq_getElem_cons hjt
          rw [hj] at this
          exact (List.cons.inj this).1.symm
        have hs : m.drop (j + 1) = s := by rw [← List.drop_drop, hj]; rfl
        have e1 : bt (B l) (i : Int) = (b.toNat : Int) := by rw [bt_B_at l i hlt, hb]
        have e2 : bt (B m) (j : Int) = (c.toNat : Int) := by rw [bt_B_at m j hjt, hc]
        by_cases hbc : b = c
        · refine Ev.done fun k => ?_
          simp only [gronx_zzContainsAny.l1, B_size, e1, e2]
          rw [if_pos (by omega), if_pos (by omega), if_pos (by omega), if_pos (by omega), if_pos (by rw [hbc])]
          simp [hbc]
        · have hne : ¬ ((b.toNat : Int) = (c.toNat : Int)) := fun e => hbc (UInt8.toNat_inj.1 (by omega))
          refine Ev.step (f := fun k => gronx_zzContainsAny.l1 k (B l) (B m) (i : Int) ((j + 1 : Nat) : Int)) (fun k => ?_) (by simpa [hbc] using ihs (j + 1) hs (by omega))
          simp only [gronx_zzContainsAny.l1, B_size, e1, e2]
          rw [if_pos (by omega), if_pos (by omega), if_pos (by omega), if_pos (by omega), if_neg hne, wrap64_nat j (by omega)]
    refine Ev.step (f := fun k => gronx_zzContainsAny.l1 k (B l) (B m) (i : Int) ((0 : Nat) : Int)) (fun k => ?_) (inner m 0 rfl (Nat.zero_le _))
    simp only [gronx_zzContainsAny.l0, B_size]
    rw [if_pos (by omega)]
    rfl
theorem any_ev (l m : List UInt8) (hl : l.length < 4611686018427387904) (hm : m.length < 4611686018427387904) : Ev (fun k => gronx_zzContainsAny.f k (B l) (B m)) (l.any fun b => m.contains b) := any_from l m hl hm l 0 rfl (Nat.zero_le _)
end Go.Proofs.YtemgofomhjabpaaGreatDoor.Core
namespace Go.Proofs.YtemgofomhjabpaaGreatDoor.Core
open Go.RowKit Go.Proofs.YtemgofomhjabpaaGreatDoorW.PrintWords
theorem below_drewNd {w W : World} (h : Below w.heap.size w W) (n : Nat) : Below w.heap.size w (W.drewN n) := below_drewN h n
set_option maxRecDepth 100000 in
set_option maxHeartbeats 800000 in
theorem ck_three (c : Nat) {x y mo d h mi s : Int} (M : Moment' x y mo d h mi s) (seg : ByteArray) (pos : Nat) (hp : pos < 7) (h3 : pos = 3) (k : Nat) (offs : List ByteArray) (hs : gronx_zzSplit.f k seg ⟨#[44]⟩ = some offs) (hn : offs.length < 1000000) (hm : ∀ o ∈ offs, gronx_zzContainsAny.f k o ⟨#[76, 87, 35]⟩ = some false)
    (b er : Bool) (hD : DueL c (posV y mo d h mi s pos) pos offs b er) (w : World) (hc0 : w.cell? ⟨c, 0, none⟩ = some (.int .u64 0)) (hc1 : w.cell? ⟨c, 1, none⟩ = some (.int .i64 x)) (hc2 : w.cell? ⟨c, 2, none⟩ = some (.pointer none)) :
    Calls Tryz.prog 111 #[.pointer (some ⟨c, 0, none⟩), .string seg, .int .i64 (pos : Int)] w fun e w' => ∃ ev, e = .returned (.tuple #[.bool b, ev]) ∧ ErrV er ev ∧ Below w.heap.size w w' := by
  have e3 : ((pos : Int) == 3) = true := by simp; omega
  have e5 : ((pos : Int) == 5) = false := by simp; omega
  clear h3
  have M := Aside0.mk M
  have hs := Aside0.mk hs
  have hD := Aside0.mk hD
  have hp := Aside0.mk hp
  go_enter Tryz.func111, Tryz.ntmps111
  go_wp2_with (go_at_call 112; refine (getRef_w c x _ hc0 hc1 hc2).mono ?_; rintro e w1 ⟨rfl, hb1⟩)
  go_region_held (fun w' => w1.heap.size < w'.heap.size ∧ w'.cell? ⟨w1.heap.size, 0, none⟩ = some (.int .u64 0) ∧ w'.cell? ⟨w1.heap.size, 1, none⟩ = some (.int .i64 x) ∧ w'.cell? ⟨w1.heap.size, 2, none⟩ = some (.pointer none))
    (first | exact SX.below hb2 (by assumption) | exact SX.below hb3 (by assumption) | go_keep | (trace_state; fail)) (first | (go_at_call 114; refine (val_w M.out pos hp.out _).mono ?_; rintro e w2 ⟨rfl, hb2⟩) | (go_at_call 115; refine (location_any x _).mono ?_; rintro e w3 ⟨bl, rfl, hlo, hlu, hb3⟩))
  rename_i hHeld
  clear hHeld
  have HB : Below w.heap.size w w3 := (below_step (below_step (below_drew1 (below_alloc hb1 _)) hb2) hb3)
  have HB := Aside0.mk HB
  clear hb1 hb2 hb3 hlo hlu hc0 hc1 hc2
  go_wp2_with (go_at_call 62; refine (gronx_zzSplit.calls k seg ⟨#[44]⟩ offs _ hs.out).mono ?_; rintro e w4 ⟨v0, rfl, hR, hb4⟩; obtain ⟨A, cc, rfl⟩ := Kd.R_slice hR)
  have HR := Aside0.mk (Kd.R_reads' hR).2.2
  have HB4 := Aside0.mk (below_step HB.out hb4)
  clear hR hb4 HB
  go_loopg [31] offs.length (fun kq v31 w' => ∃ (j : Nat), v31 = .int .i64 (j : Int) ∧ Aside0 (DueL c (posV y mo d h mi s pos) pos (offs.drop j) b er) ∧ Aside0 (kq + j = offs.length) ∧ Aside0 (Below w4.heap.size w4 w'))
  case atStart => exact ⟨0, rfl, hD, ⟨rfl⟩, ⟨by repeat (first | exact Below.refl _ _ | apply below_drew1 | apply pw_below_drewN)⟩⟩
  case round =>
    clear hD
    obtain ⟨j, rfl, HD, HK, HW⟩ := hrel
    by_cases hj : j < offs.length
    · have q : ((j : Int) < (offs.length : Int)) := by omega
      have p0 : 0 ≤ (j : Int) := by omega
      have q0 : decide ((j : Int) < (offs.length : Int)) = true := decide_eq_true q
      obtain ⟨ad, rfl, hx⟩ := Kd.at_string HR.out (j : Int) p0 q
      replace hx := cell_after HW.out hx
      rw [rdOf_nat _ _ hj, Int.toNat_natCast] at hx
      have HD' := HD.out
      rw [List.drop_eq_getElem_cons hj] at HD'
      obtain ⟨b1, e1, hoff, hif⟩ := HD'
      have hmo := Aside0.mk (hm _ (List.getElem_mem hj))
      have hoff := Aside0.mk hoff
      have hif := Aside0.mk hif
      clear HD
      have hb : ∀ W, Below W.heap.size W W := fun W => Below.refl _ _
      cases b1 with
      | true =>
        obtain ⟨rfl, rfl⟩ : b = true ∧ er = e1 := by have := hif.out; simpa using this
        go_wp2_with (first | (go_at_call 116; refine (gronx_zzContainsAny.calls k _ _ false _ hmo.out).mono ?_; rintro e w' ⟨rfl, ⟨nd, rfl⟩⟩) | (go_at_call 117; refine (hoff.out _).mono ?_; rintro e w5 ⟨ev, rfl, hev, hb5⟩))
        go_ret2
        exact ⟨ev, rfl, hev, below_step (below_drewNd (below_step HB4.out HW.out) _) hb5⟩
      | false =>
        cases e1 with
        | true =>
          obtain ⟨rfl, rfl⟩ : b = false ∧ er = true := by have := hif.out; simpa using this
          go_wp2_with (first | (go_at_call 116; refine (gronx_zzContainsAny.calls k _ _ false _ hmo.out).mono ?_; rintro e w' ⟨rfl, ⟨nd, rfl⟩⟩) | (go_at_call 117; refine (hoff.out _).mono ?_; rintro e w5 ⟨ev, rfl, hev, hb5⟩; obtain ⟨te, ve, rfl⟩ := ErrV.err hev))
          go_ret2
          exact ⟨_, rfl, hev, below_step (below_drewNd (below_step HB4.out HW.out) _) hb5⟩
        | false =>
          have hr : DueL c (posV y mo d h mi s pos) pos (offs.drop (j + 1)) b er := by have := hif.out; simpa using this
          have hr := Aside0.mk hr
          go_wp2_with (first | (go_at_call 116; refine (gronx_zzContainsAny.calls k _ _ false _ hmo.out).mono ?_; rintro e w' ⟨rfl, ⟨nd, rfl⟩⟩) | (go_at_call 117; refine (hoff.out _).mono ?_; rintro e w5 ⟨ev, rfl, hev, hb5⟩; obtain rfl := ErrV.nil hev))
          go_roundg (gk - 1)
          case measure => have := HK.out; omega
          case rel => exact ⟨j + 1, by simp, hr, ⟨by have := HK.out; omega⟩, ⟨by repeat (first | exact below_step (below_drewNd HW.out _) hb5 | apply below_drew1 | apply pw_below_drewN)⟩⟩
    · have q0 : decide ((j : Int) < (offs.length : Int)) = false := decide_eq_false (by omega)
      have HD' := HD.out
      rw [List.drop_eq_nil_of_le (by omega)] at HD'
      obtain ⟨rfl, rfl⟩ := HD'
      go_wp2
      go_ret2
      exact ⟨_, rfl, .inl ⟨rfl, rfl⟩, below_step HB4.out HW.out⟩
set_option maxRecDepth 100000 in
set_option maxHeartbeats 800000 in
theorem ck_five (c : Nat) {x y mo d h mi s : Int} (M : Moment' x y mo d h mi s) (seg : ByteArray) (pos : Nat) (hp : pos < 7) (h5 : pos = 5) (k : Nat) (offs : List ByteArray) (hs : gronx_zzSplit.f k seg ⟨#[44]⟩ = some offs) (hn : offs.length < 1000000) (hm : ∀ o ∈ offs, gronx_zzContainsAny.f k o ⟨#[76, 87, 35]⟩ = some false)
    (b er : Bool) (hD : DueL c (posV y mo d h mi s pos) pos offs b er) (w : World) (hc0 : w.cell? ⟨c, 0, none⟩ = some (.int .u64 0)) (hc1 : w.cell? ⟨c, 1, none⟩ = some (.int .i64 x)) (hc2 : w.cell? ⟨c, 2, none⟩ = some (.pointer none)) :
    Calls Tryz.prog 111 #[.pointer (some ⟨c, 0, none⟩), .string seg, .int .i64 (pos : Int)] w fun e w' => ∃ ev, e = .returned (.tuple #[.bool b, ev]) ∧ ErrV er ev ∧ Below w.heap.size w w' := by
  have e3 : ((pos : Int) == 3) = false := by simp; omega
  have e5 : ((pos : Int) == 5) = true := by simp; omega
  clear h5
  have M := Aside0.mk M
  have hs := Aside0.mk hs
  have hD := Aside0.mk hD
  have hp := Aside0.mk hp
  go_enter Tryz.func111, Tryz.ntmps111
  go_wp2_with (go_at_call 112; refine (getRef_w c x _ hc0 hc1 hc2).mono ?_; rintro e w1 ⟨rfl, hb1⟩)
  go_region_held (fun w' => w1.heap.size < w'.heap.size ∧ w'.cell? ⟨w1.heap.size, 0, none⟩ = some (.int .u64 0) ∧ w'.cell? ⟨w1.heap.size, 1, none⟩ = some (.int .i64 x) ∧ w'.cell? ⟨w1.heap.size, 2, none⟩ = some (.pointer none))
    (first | exact SX.below hb2 (by assumption) | exact SX.below hb3 (by assumption) | go_keep | (trace_state; fail)) (first | (go_at_call 114; refine (val_w M.out pos hp.out _).mono ?_; rintro e w2 ⟨rfl, hb2⟩) | (go_at_call 115; refine (location_any x _).mono ?_; rintro e w3 ⟨bl, rfl, hlo, hlu, hb3⟩))
  rename_i hHeld
  clear hHeld
  have HB : Below w.heap.size w w3 := (below_step (below_step (below_drew1 (below_alloc hb1 _)) hb2) hb3)
  have HB := Aside0.mk HB
  clear hb1 hb2 hb3 hlo hlu hc0 hc1 hc2
  go_wp2_with (go_at_call 62; refine (gronx_zzSplit.calls k seg ⟨#[44]⟩ offs _ hs.out).mono ?_; rintro e w4 ⟨v0, rfl, hR, hb4⟩; obtain ⟨A, cc, rfl⟩ := Kd.R_slice hR)
  have HR := Aside0.mk (Kd.R_reads' hR).2.2
  have HB4 := Aside0.mk (below_step HB.out hb4)
  clear hR hb4 HB
  go_loopg [31] offs.length (fun kq v31 w' => ∃ (j : Nat), v31 = .int .i64 (j : Int) ∧ Aside0 (DueL c (posV y mo d h mi s pos) pos (offs.drop j) b er) ∧ Aside0 (kq + j = offs.length) ∧ Aside0 (Below w4.heap.size w4 w'))
  case atStart => exact ⟨0, rfl, hD, ⟨rfl⟩, ⟨by repeat (first | exact Below.refl _ _ | apply below_drew1 | apply pw_below_drewN)⟩⟩
  case round =>
    clear hD
    obtain ⟨j, rfl, HD, HK, HW⟩ := hrel
    by_cases hj : j < offs.length
    · have q : ((j : Int) < (offs.length : Int)) := by omega
      have p0 : 0 ≤ (j : Int) := by omega
      have q0 : decide ((j : Int) < (offs.length : Int)) = true := decide_eq_true q
      obtain ⟨ad, rfl, hx⟩ := Kd.at_string HR.out (j : Int) p0 q
      replace hx := cell_after HW.out hx
      rw [rdOf_nat _ _ hj, Int.toNat_natCast] at hx
      have HD' := HD.out
      rw [List.drop_eq_getElem_cons hj] at HD'
      obtain ⟨b1, e1, hoff, hif⟩ := HD'
      have hmo := Aside0.mk (hm _ (List.getElem_mem hj))
      have hoff := Aside0.mk hoff
      have hif := Aside0.mk hif
      clear HD
      have hb : ∀ W, Below W.heap.size W W := fun W => Below.refl _ _
      cases b1 with
      | true =>
        obtain ⟨rfl, rfl⟩ : b = true ∧ er = e1 := by have := hif.out; simpa using this
        go_wp2_with (first | (go_at_call 116; refine (gronx_zzContainsAny.calls k _ _ false _ hmo.out).mono ?_; rintro e w' ⟨rfl, ⟨nd, rfl⟩⟩) | (go_at_call 117; refine (hoff.out _).mono ?_; rintro e w5 ⟨ev, rfl, hev, hb5⟩))
        go_ret2
        exact ⟨ev, rfl, hev, below_step (below_drewNd (below_step HB4.out HW.out) _) hb5⟩
      | false =>
        cases e1 with
        | true =>
          obtain ⟨rfl, rfl⟩ : b = false ∧ er = true := by have := hif.out; simpa using this
          go_wp2_with (first | (go_at_call 116; refine (gronx_zzContainsAny.calls k _ _ false _ hmo.out).mono ?_; rintro e w' ⟨rfl, ⟨nd, rfl⟩⟩) | (go_at_call 117; refine (hoff.out _).mono ?_; rintro e w5 ⟨ev, rfl, hev, hb5⟩; obtain ⟨te, ve, rfl⟩ := ErrV.err hev))
          go_ret2
          exact ⟨_, rfl, hev, below_step (below_drewNd (below_step HB4.out HW.out) _) hb5⟩
        | false =>
          have hr : DueL c (posV y mo d h mi s pos) pos (offs.drop (j + 1)) b er := by have := hif.out; simpa using this
          have hr := Aside0.mk hr
          go_wp2_with (first | (go_at_call 116; refine (gronx_zzContainsAny.calls k _ _ false _ hmo.out).mono ?_; rintro e w' ⟨rfl, ⟨nd, rfl⟩⟩) | (go_at_call 117; refine (hoff.out _).mono ?_; rintro e w5 ⟨ev, rfl, hev, hb5⟩; obtain rfl := ErrV.nil hev))
          go_roundg (gk - 1)
          case measure => have := HK.out; omega
          case rel => exact ⟨j + 1, by simp, hr, ⟨by have := HK.out; omega⟩, ⟨by repeat (first | exact below_step (below_drewNd HW.out _) hb5 | apply below_drew1 | apply pw_below_drewN)⟩⟩
    · have q0 : decide ((j : Int) < (offs.length : Int)) = false := decide_eq_false (by omega)
      have HD' := HD.out
      rw [List.drop_eq_nil_of_le (by omega)] at HD'
      obtain ⟨rfl, rfl⟩ := HD'
      go_wp2
      go_ret2
      exact ⟨_, rfl, .inl ⟨rfl, rfl⟩, below_step HB4.out HW.out⟩
end Go.Proofs.YtemgofomhjabpaaGreatDoor.Core
namespace Go.Proofs.YtemgofomhjabpaaGreatDoor.Core
open Go.RowKit Go.Proofs.YtemgofomhjabpaaGreatDoorW.PrintWords
def SegA (x : Int) (seg : ByteArray) (pos : Nat) (b er : Bool) : Prop := ∀ (c : Nat) (w : World), w.cell? ⟨c, 0, none⟩ = some (.int .u64 0) → w.cell? ⟨c, 1, none⟩ = some (.int .i64 x) → w.cell? ⟨c, 2, none⟩ = some (.pointer none) →
    Calls Tryz.prog 111 #[.pointer (some ⟨c, 0, none⟩), .string seg, .int .i64 (pos : Int)] w fun e w' => ∃ ev, e = .returned (.tuple #[.bool b, ev]) ∧ ErrV er ev ∧ Below w.heap.size w w'
theorem segA_of {x y mo d h mi s : Int} (M : Moment' x y mo d h mi s) (seg : ByteArray) (pos : Nat) (hp : pos < 7) (k : Nat) (offs : List ByteArray) (hs : gronx_zzSplit.f k seg ⟨#[44]⟩ = some offs) (hn : offs.length < 1000000)
    (hm : pos = 3 ∨ pos = 5 → ∀ o ∈ offs, gronx_zzContainsAny.f k o ⟨#[76, 87, 35]⟩ = some false) (b er : Bool) (hD : ∀ c, DueL c (posV y mo d h mi s pos) pos offs b er) : SegA x seg pos b er := by
  intro c w h0 h1 h2
  by_cases h3 : pos = 3
  · exact ck_three c M seg pos hp h3 k offs hs hn (hm (.inl h3)) b er (hD c) w h0 h1 h2
  · by_cases h5 : pos = 5
    · exact ck_five c M seg pos hp h5 k offs hs hn (hm (.inr h5)) b er (hD c) w h0 h1 h2
    · exact ck_other c M seg pos hp h3 h5 k offs hs hn b er (hD c) w h0 h1 h2
end Go.Proofs.YtemgofomhjabpaaGreatDoor.Core
namespace Go.Proofs.YtemgofomhjabpaaGreatDoor.Core
open Go.RowKit Go.Proofs.YtemgofomhjabpaaGreatDoorW.PrintWords
theorem new_w (w : World) : Calls Tryz.prog 31 #[] w fun e w' => e = .returned (.pointer (some ⟨w.heap.size + 1, 0, none⟩)) ∧ (w.alloc (.cells #[.int .u64 0, .int .i64 0, .pointer none] 94)).alloc (.cells #[.iface 92 (.pointer (some ⟨w.heap.size, 0, none⟩))] 98) = w' := by
  go_enter Tryz.func31, Tryz.ntmps31
  go_wp2
  go_ret
  exact ⟨rfl, rfl⟩
theorem setRef_w (c : Nat) (x : Int) (w : World) (v0 v1 v2 : Value) (h0 : w.cell? ⟨c, 0, none⟩ = some v0) (h1 : w.cell? ⟨c, 1, none⟩ = some v1) (h2 : w.cell? ⟨c, 2, none⟩ = some v2) (f0 : w.frozen? ⟨c, 0, none⟩ = false) (f1 : w.frozen? ⟨c, 1, none⟩ = false) (f2 : w.frozen? ⟨c, 2, none⟩ = false) :
    Calls Tryz.prog 113 #[.pointer (some ⟨c, 0, none⟩), .agg #[.int .u64 0, .int .i64 x, .pointer none]] w fun e w' => e = .returned (.tuple #[]) ∧
      ((((w.alloc (.cells #[.int .u64 0, .int .i64 x, .pointer none] 79)).setCell ⟨c, 0, none⟩ (.int .u64 0)).setCell ⟨c, 1, none⟩ (.int .i64 x)).setCell ⟨c, 2, none⟩ (.pointer none)) = w' := by
  have hc : c < w.heap.size := World.block_lt_of_cell? w ⟨c, 0, none⟩ h0
  have hne : c ≠ w.heap.size := Nat.ne_of_lt hc
  have hne' : w.heap.size ≠ c := Nat.ne_of_gt hc
  go_enter Tryz.func113, Tryz.ntmps113
  go_wp2
  go_end0
  exact ⟨rfl, by go_simp⟩
end Go.Proofs.YtemgofomhjabpaaGreatDoor.Core
namespace Go.Proofs.YtemgofomhjabpaaGreatDoor.Core
open Go.RowKit
theorem nil_setRef (w : World) (C : Addr) : (nilAhead 362 92 (.pointer (some C)) "SetRef").run Tryz.prog w = .ok (some false) w := by kernel_rfl
theorem m_setRef (w : World) (C : Addr) : (method 362 92 (.pointer (some C)) "SetRef").run Tryz.prog w = .ok (113, .pointer (some C)) w := by kernel_rfl
theorem nil_check (w : World) (C : Addr) : (nilAhead 362 92 (.pointer (some C)) "CheckDue").run Tryz.prog w = .ok (some false) w := by kernel_rfl
theorem m_check (w : World) (C : Addr) : (method 362 92 (.pointer (some C)) "CheckDue").run Tryz.prog w = .ok (111, .pointer (some C)) w := by kernel_rfl
end Go.Proofs.YtemgofomhjabpaaGreatDoor.Core
namespace Go.Proofs.YtemgofomhjabpaaGreatDoor.Core
open Go.RowKit Go.Proofs.YtemgofomhjabpaaGreatDoorW.PrintWords
def DueW (G C : Nat) (x : Int) (segs : List ByteArray) (b er : Bool) : Prop := ∀ (W : World) (A : Option Addr) (cc : Nat), W.cell? ⟨G, 0, none⟩ = some (.iface 92 (.pointer (some ⟨C, 0, none⟩))) →
    W.cell? ⟨C, 0, none⟩ = some (.int .u64 0) → W.cell? ⟨C, 1, none⟩ = some (.int .i64 x) → W.cell? ⟨C, 2, none⟩ = some (.pointer none) → Kd.C Kd.string W A segs.length segs → segs.length ≤ cc →
    Calls Tryz.prog 42 #[.pointer (some ⟨G, 0, none⟩), .slice A segs.length cc] W fun e w' => ∃ ev, e = .returned (.tuple #[.bool b, ev]) ∧ ErrV er ev ∧ Below W.heap.size W w'
def SD (G C R : Nat) (x : Int) (w' : World) : Prop := w'.cell? ⟨G, 0, none⟩ = some (.iface 92 (.pointer (some ⟨C, 0, none⟩))) ∧ w'.cell? ⟨R, 0, none⟩ = some (.int .u64 0) ∧ w'.cell? ⟨R, 1, none⟩ = some (.int .i64 x) ∧ w'.cell? ⟨R, 2, none⟩ = some (.pointer none)
theorem SD.set {G C R j : Nat} {x : Int} {w : World} {v : Value} (hCG : C ≠ G) (hCR : C ≠ R) (h : SD G C R x w) : SD G C R x (w.setCell ⟨C, j, none⟩ v) :=
  ⟨(set_other (fun h => hCG (congrArg Addr.block h))).trans h.1, (set_other (fun h => hCR (congrArg Addr.block h))).trans h.2.1, (set_other (fun h => hCR (congrArg Addr.block h))).trans h.2.2.1, (set_other (fun h => hCR (congrArg Addr.block h))).trans h.2.2.2⟩
theorem SD.alloc {G C R : Nat} {x : Int} {w : World} (o : Obj) (h : SD G C R x w) : SD G C R x (w.alloc o) :=
  have hb : Below w.heap.size w (w.alloc o) := (Below.refl _ _).alloc (Nat.le_refl _) o
  ⟨cell_after hb h.1, cell_after hb h.2.1, cell_after hb h.2.2.1, cell_after hb h.2.2.2⟩
theorem set_alloc {w : World} {B C G : Nat} {x : Int} {v0 v1 v2 vg : Value} (hg : w.cell? ⟨G, 0, none⟩ = some vg) (h0 : w.cell? ⟨C, 0, none⟩ = some v0) (h1 : w.cell? ⟨C, 1, none⟩ = some v1) (h2 : w.cell? ⟨C, 2, none⟩ = some v2) (hCG : C ≠ G) (hB : B ≤ C) :
    (((((w.alloc (.cells #[.int .u64 0, .int .i64 x, .pointer none] 79)).setCell ⟨C, 0, none⟩ (.int .u64 0)).setCell ⟨C, 1, none⟩ (.int .i64 x)).setCell ⟨C, 2, none⟩ (.pointer none)).drew).cell? ⟨G, 0, none⟩ = some vg ∧ (((((w.alloc (.cells #[.int .u64 0, .int .i64 x, .pointer none] 79)).setCell ⟨C, 0, none⟩ (.int .u64 0)).setCell ⟨C, 1, none⟩ (.int .i64 x)).setCell ⟨C, 2, none⟩ (.pointer none)).drew).cell? ⟨C, 0, none⟩ = some (.int .u64 0) ∧ (((((w.alloc (.cells #[.int .u64 0, .int .i64 x, .pointer none] 79)).setCell ⟨C, 0, none⟩ (.int .u64 0)).setCell ⟨C, 1, none⟩ (.int .i64 x)).setCell ⟨C, 2, none⟩ (.pointer none)).drew).cell? ⟨C, 1, none⟩ = some (.int .i64 x) ∧ (((((w.alloc (.cells #[.int .u64 0, .int .i64 x, .pointer none] 79)).setCell ⟨C, 0, none⟩ (.int .u64 0)).setCell ⟨C, 1, none⟩ (.int .i64 x)).setCell ⟨C, 2, none⟩ (.pointer none)).drew).cell? ⟨C, 2, none⟩ = some (.pointer none) ∧ Below B w (((((w.alloc (.cells #[.int .u64 0, .int .i64 x, .pointer none] 79)).setCell ⟨C, 0, none⟩ (.int .u64 0)).setCell ⟨C, 1, none⟩ (.int .i64 x)).setCell ⟨C, 2, none⟩ (.pointer none)).drew) ∧ B ≤ (((((w.alloc (.cells #[.int .u64 0, .int .i64 x, .pointer none] 79)).setCell ⟨C, 0, none⟩ (.int .u64 0)).setCell ⟨C, 1, none⟩ (.int .i64 x)).setCell ⟨C, 2, none⟩ (.pointer none)).drew).heap.size := by
  have hCs : C < w.heap.size := World.block_lt_of_cell? w ⟨C, 0, none⟩ h0
  have hb : Below w.heap.size w (w.alloc (.cells #[.int .u64 0, .int .i64 x, .pointer none] 79)) := (Below.refl w.heap.size w).alloc (Nat.le_refl _) _
  obtain ⟨q0, q1, q2⟩ := set3 (a := .int .u64 0) (b := .int .i64 x) (c := .pointer none) (cell_after hb h0) (cell_after hb h1) (cell_after hb h2)
  have q3 := (set_other (v := .pointer none) (b := ⟨G, 0, none⟩) (a := ⟨C, 2, none⟩) (fun h => hCG (congrArg Addr.block h))).trans ((set_other (v := .int .i64 x) (a := ⟨C, 1, none⟩) (fun h => hCG (congrArg Addr.block h))).trans ((set_other (v := .int .u64 0) (a := ⟨C, 0, none⟩) (fun h => hCG (congrArg Addr.block h))).trans (cell_after hb hg)))
  have hBB : Below B w (((((w.alloc (.cells #[.int .u64 0, .int .i64 x, .pointer none] 79)).setCell ⟨C, 0, none⟩ (.int .u64 0)).setCell ⟨C, 1, none⟩ (.int .i64 x)).setCell ⟨C, 2, none⟩ (.pointer none)).drew) := ((((hb.mono (Nat.le_trans hB (Nat.le_of_lt hCs))).setCell hB _).setCell hB _).setCell hB _).drew
  exact ⟨q3, q0, q1, q2, hBB, Nat.le_trans (Nat.le_trans hB (Nat.le_of_lt hCs)) hBB.size⟩
set_option maxRecDepth 100000 in
set_option maxHeartbeats 800000 in
theorem isDue_w (B G C R : Nat) (x : Int) (expr : ByteArray) (k : Nat) (segs : List ByteArray) (hS : gronx_Segments.f k expr = some (segs, none)) (b er : Bool) (hD : DueW G C x segs b er) (w : World) (v0 v1 v2 : Value)
    (hg : w.cell? ⟨G, 0, none⟩ = some (.iface 92 (.pointer (some ⟨C, 0, none⟩)))) (h0 : w.cell? ⟨C, 0, none⟩ = some v0) (h1 : w.cell? ⟨C, 1, none⟩ = some v1) (h2 : w.cell? ⟨C, 2, none⟩ = some v2) (f0 : w.frozen? ⟨C, 0, none⟩ = false) (f1 : w.frozen? ⟨C, 1, none⟩ = false) (f2 : w.frozen? ⟨C, 2, none⟩ = false)
    (r0 : w.cell? ⟨R, 0, none⟩ = some (.int .u64 0)) (r1 : w.cell? ⟨R, 1, none⟩ = some (.int .i64 x)) (r2 : w.cell? ⟨R, 2, none⟩ = some (.pointer none)) (hB : B ≤ C) (hCG : C ≠ G) (hCR : C ≠ R) :
    Calls Tryz.prog 32 #[.pointer (some ⟨G, 0, none⟩), .string expr, .slice (some ⟨R, 0, none⟩) 1 1] w fun e w' => ∃ ev, e = .returned (.tuple #[.bool b, ev]) ∧ ErrV er ev ∧ Below B w w' := by
  have hS := Aside0.mk hS
  have hD := Aside0.mk hD
  have hm1 := nil_setRef
  have hm2 := m_setRef
  go_enter Tryz.func32, Tryz.ntmps32
  go_wp2
  go_region_held (fun w' => w'.cell? ⟨G, 0, none⟩ = some (.iface 92 (.pointer (some ⟨C, 0, none⟩))) ∧ w'.cell? ⟨R, 0, none⟩ = some (.int .u64 0) ∧ w'.cell? ⟨R, 1, none⟩ = some (.int .i64 x) ∧ w'.cell? ⟨R, 2, none⟩ = some (.pointer none))
    (first | exact SD.set hCG hCR (SD.set hCG hCR (SD.set hCG hCR (SD.alloc _ (by assumption)))) | go_keep) (first | (go_at_call 113; refine (setRef_w C x w.drew v0 v1 v2 h0 h1 h2 f0 f1 f2).mono ?_; rintro e w1 ⟨rfl, rfl⟩))
  rename_i hHeld
  clear hHeld
  obtain ⟨hG, c0, c1, c2, HB, hz⟩ := set_alloc (x := x) hg h0 h1 h2 hCG hB
  have HB := Aside0.mk HB
  have hG := Aside0.mk hG
  have c0 := Aside0.mk c0
  have c1 := Aside0.mk c1
  have c2 := Aside0.mk c2
  have hz := Aside0.mk hz
  go_wp2_with (first | (go_at_call 39; refine (gronx_Segments.calls k expr segs none _ hS.out).mono ?_; rintro e w2 ⟨vs, rfl, hR, hb2⟩; obtain ⟨A, cc, rfl⟩ := Kd.R_slice hR; rw [errW_none]) | (go_at_call 42; go_loud (refine (hD.out _ A cc (cell_after hb2 hG.out) (cell_after hb2 c0.out) (cell_after hb2 c1.out) (cell_after hb2 c2.out) (Kd.R_reads' hR).2.2 (Kd.R_reads' hR).2.1).mono ?_; rintro e w3 ⟨ev, rfl, hev, hb3⟩)))
  go_ret2
  exact ⟨ev, rfl, hev, (HB.out.trans (hb2.mono hz.out)).trans (hb3.mono (Nat.le_trans hz.out hb2.size))⟩
end Go.Proofs.YtemgofomhjabpaaGreatDoor.Core
namespace Go.Proofs.YtemgofomhjabpaaGreatDoor.Core
open Go.RowKit Go.Proofs.YtemgofomhjabpaaGreatDoorW.PrintWords
def IsStar (s : ByteArray) : Prop := s = ⟨#[42]⟩ ∨ s = ⟨#[63]⟩
def DueR (x : Int) (segs : List ByteArray) : Nat → Bool → Prop
  | 0, r => r = true
  | q + 1, r => (∃ s, segs[q]? = some s ∧ IsStar s ∧ DueR x segs q r) ∨ (∃ s b, segs[q]? = some s ∧ s ≠ ⟨#[42]⟩ ∧ s ≠ ⟨#[63]⟩ ∧ SegA x s q b false ∧ (if b = true then DueR x segs q r else r = false))
theorem toList_ne {s t : ByteArray} (h : s ≠ t) : s.toList ≠ t.toList := fun e => h (by
  have : s.data.toList = t.data.toList := by rw [← Lib.toList_data, ← Lib.toList_data, e]
  cases s; cases t; simp at this; rw [this])
set_option maxRecDepth 100000 in
set_option maxHeartbeats 3000000 in
theorem segmentsDue_w (G C : Nat) (x : Int) (segs : List ByteArray) (k : Nat) (i5 i3 : Int) (h6 : 6 ≤ segs.length) (h7 : segs.length ≤ 7) (h5 : gronx_zzIndex.f k (segs[5]'(by omega)) ⟨#[42, 47]⟩ = some i5) (h3 : gronx_zzIndex.f k (segs[3]'(by omega)) ⟨#[42]⟩ = some i3)
    (hx : IsStar (segs[5]'(by omega)) ∨ i5 = 0 ∨ i3 = 0 ∨ segs[3]'(by omega) = ⟨#[63]⟩) (r : Bool) (hD : DueR x segs segs.length r) : DueW G C x segs r false := by
  intro w A cc hg hc0 hc1 hc2 hR hcc
  have hD := Aside0.mk hD
  have hR := Aside0.mk hR
  have h5 := Aside0.mk h5
  have h3 := Aside0.mk h3
  have hx := Aside0.mk hx
  have hm1 := nil_check
  have hm2 := m_check
  go_enter Tryz.func42, Tryz.ntmps42
  go_wp2
  go_loopg [6, 7] segs.length (fun kq v6 v7 w' => ∃ (j : Nat), v6 = .bool false ∧ v7 = .int .i64 (j : Int) ∧ Aside0 (DueR x segs (segs.length - j) r) ∧ Aside0 (kq + j = segs.length) ∧ Aside0 (Below w.heap.size w w'))
  case atStart => exact ⟨0, rfl, rfl, ⟨hD.out⟩, ⟨rfl⟩, ⟨by repeat (first | exact Below.refl _ _ | apply below_drew1 | apply pw_below_drewN)⟩⟩
  case round =>
    clear hD
    obtain ⟨j, rfl, rfl, HD, HK, HW⟩ := hrel
    by_cases hj : j < segs.length
    · obtain ⟨q, hq⟩ : ∃ q, segs.length = j + 1 + q := ⟨segs.length - 1 - j, by omega⟩
      have hpos : (segs.length : Int) - 1 - (j : Int) = (q : Int) := by omega
      have qj : ((j : Int) < (segs.length : Int)) := by omega
      have ql : ((q : Int) < (segs.length : Int)) := by omega
      have p0 : 0 ≤ (q : Int) := by omega
      have hqn : q < segs.length := by omega
      have h3n : 3 < segs.length := by omega
      obtain ⟨ad, rfl, hx0⟩ := Kd.at_string hR.out (q : Int) p0 ql
      replace hx0 := cell_after HW.out hx0
      rw [rdOf_nat _ _ hqn, Int.toNat_natCast] at hx0
      have gG := cell_after HW.out hg
      have gc0 := Aside0.mk (cell_after HW.out hc0)
      have gc1 := Aside0.mk (cell_after HW.out hc1)
      have gc2 := Aside0.mk (cell_after HW.out hc2)
      have HD' := HD.out
      rw [show segs.length - j = q + 1 by omega] at HD'
      rcases HD' with ⟨s, hs, hst, hr⟩ | ⟨s, b, hs, n42, n63, hA, hif⟩
      · rw [List.getElem?_eq_getElem hqn] at hs
        obtain rfl := Option.some.inj hs
        have hr := Aside0.mk (show DueR x segs (segs.length - (j + 1)) r by rw [show segs.length - (j + 1) = q by omega]; exact hr)
        clear hs
        replace hq := Aside0.mk hq
        rcases hst with hst | hst
        · rw [hst] at hx0
          clear hst
          go_wp2
          go_roundg (gk - 1)
          case measure => have := HK.out; omega
          case rel => exact ⟨j + 1, rfl, by simp, hr, ⟨by have := HK.out; omega⟩, ⟨by repeat (first | exact HW.out | apply below_drew1 | apply pw_below_drewN)⟩⟩
        · rw [hst] at hx0
          clear hst
          go_wp2
          go_roundg (gk - 1)
          case measure => have := HK.out; omega
          case rel => exact ⟨j + 1, rfl, by simp, hr, ⟨by have := HK.out; omega⟩, ⟨by repeat (first | exact HW.out | apply below_drew1 | apply pw_below_drewN)⟩⟩
      · rw [List.getElem?_eq_getElem hqn] at hs
        obtain rfl := Option.some.inj hs
        clear hs
        have hA := Aside0.mk hA
        have hif := Aside0.mk hif
        replace hq := Aside0.mk hq
        have s1 : segs[q].toList ≠ ([42] : List UInt8) := by have := toList_ne n42; rwa [Lib.toList_data (⟨#[42]⟩ : ByteArray)] at this
        have s2 : (segs[q].toList == ([42] : List UInt8)) = false := beq_eq_false_iff_ne.mpr s1
        have s3 : (segs[q].toList == ([63] : List UInt8)) = false := beq_eq_false_iff_ne.mpr (by have := toList_ne n63; rwa [Lib.toList_data (⟨#[63]⟩ : ByteArray)] at this)
        by_cases e5 : q = 5
        · have h5' : Aside0 (gronx_zzIndex.f k segs[q] ⟨#[42, 47]⟩ = some i5) := ⟨by subst e5; exact h5.out⟩
          have h3' := h3
          have hxx : i5 = 0 ∨ i3 = 0 ∨ segs[3] = ⟨#[63]⟩ := by
            rcases hx.out with hx | hx
            · exfalso
              subst e5
              rcases hx with hx | hx
              · exact n42 hx
              · exact n63 hx
            · exact hx
          obtain ⟨ad3, ea, hx3⟩ := Kd.at_string hR.out 3 (by omega) (show (3 : Int) < (segs.length : Int) by omega)
          obtain rfl := Option.some.inj ea
          clear ea
          replace hx3 := cell_after HW.out hx3
          rw [show rdOf ByteArray.empty segs 3 = segs[3] from rdOf_nat segs 3 h3n] at hx3
          rw [show (3 : Int).toNat = 3 from rfl] at hx3
          have hx3' : wr.cell? ⟨ad.block, ad.off + 3, none⟩ = some (.string segs[3]) := hx3
          have b3 : ((q : Int) = 3) = False := by simp; omega
          have b3' : ((q : Int) == 3) = false := by simp; omega
          have b5 : ((q : Int) == 5) = true := by simp; omega
          have b5' : ((q : Int) = 5) = True := by simp; omega
          clear e5 n42 n63
          generalize segs[q] = sq at hx0 hA h5' s1 s2 s3
          generalize segs[3] = t3 at hx3 hx3' h3' hxx
          by_cases z5 : i5 = 0
          · subst z5
            clear hxx
            cases b with
            | true =>
              have hr := Aside0.mk (show DueR x segs (segs.length - (j + 1)) r by rw [show segs.length - (j + 1) = q by have := hq.out; omega]; simpa using hif.out)
              go_wp2_with (first | (go_at_call 50; refine (gronx_zzIndex.calls k _ _ _ _ h5'.out).mono ?_; rintro e wz ⟨rfl, ⟨nd, rfl⟩⟩; clear h5') | (go_at_call 50; refine (gronx_zzIndex.calls k _ _ _ _ h3'.out).mono ?_; rintro e wz ⟨rfl, ⟨nd2, rfl⟩⟩) | (go_at_call 111; refine (hA.out C _ (cell_after (by repeat (first | exact Below.refl _ _ | apply below_drew1 | apply pw_below_drewN)) gc0.out) (cell_after (by repeat (first | exact Below.refl _ _ | apply below_drew1 | apply pw_below_drewN)) gc1.out) (cell_after (by repeat (first | exact Below.refl _ _ | apply below_drew1 | apply pw_below_drewN)) gc2.out)).mono ?_; rintro e w5 ⟨ev, rfl, hev, hb5⟩; obtain rfl := ErrV.nil hev))
              go_roundg (gk - 1)
              case measure => have := HK.out; omega
              case rel => exact ⟨j + 1, rfl, by simp, hr, ⟨by have := HK.out; omega⟩, ⟨by repeat (first | exact below_step (by repeat (first | exact HW.out | apply below_drew1 | apply pw_below_drewN)) hb5 | apply below_drew1 | apply pw_below_drewN)⟩⟩
            | false =>
              obtain rfl : r = false := by simpa using hif.out
              go_wp2_with (first | (go_at_call 50; refine (gronx_zzIndex.calls k _ _ _ _ h5'.out).mono ?_; rintro e wz ⟨rfl, ⟨nd, rfl⟩⟩; clear h5') | (go_at_call 50; refine (gronx_zzIndex.calls k _ _ _ _ h3'.out).mono ?_; rintro e wz ⟨rfl, ⟨nd2, rfl⟩⟩) | (go_at_call 111; refine (hA.out C _ (cell_after (by repeat (first | exact Below.refl _ _ | apply below_drew1 | apply pw_below_drewN)) gc0.out) (cell_after (by repeat (first | exact Below.refl _ _ | apply below_drew1 | apply pw_below_drewN)) gc1.out) (cell_after (by repeat (first | exact Below.refl _ _ | apply below_drew1 | apply pw_below_drewN)) gc2.out)).mono ?_; rintro e w5 ⟨ev, rfl, hev, hb5⟩; obtain rfl := ErrV.nil hev))
              go_ret2
              exact ⟨_, rfl, .inl ⟨rfl, rfl⟩, below_step (by repeat (first | exact HW.out | apply below_drew1 | apply pw_below_drewN)) hb5⟩
          · have z5' : (i5 == 0) = false := beq_eq_false_iff_ne.mpr z5
            by_cases z3 : i3 = 0
            · subst z3
              clear hxx
              cases b with
              | true =>
                have hr := Aside0.mk (show DueR x segs (segs.length - (j + 1)) r by rw [show segs.length - (j + 1) = q by have := hq.out; omega]; simpa using hif.out)
                go_wp2_with (first | (go_at_call 50; refine (gronx_zzIndex.calls k _ _ _ _ h5'.out).mono ?_; rintro e wz ⟨rfl, ⟨nd, rfl⟩⟩; clear h5') | (go_at_call 50; refine (gronx_zzIndex.calls k _ _ _ _ h3'.out).mono ?_; rintro e wz ⟨rfl, ⟨nd2, rfl⟩⟩) | (go_at_call 111; refine (hA.out C _ (cell_after (by repeat (first | exact Below.refl _ _ | apply below_drew1 | apply pw_below_drewN)) gc0.out) (cell_after (by repeat (first | exact Below.refl _ _ | apply below_drew1 | apply pw_below_drewN)) gc1.out) (cell_after (by repeat (first | exact Below.refl _ _ | apply below_drew1 | apply pw_below_drewN)) gc2.out)).mono ?_; rintro e w5 ⟨ev, rfl, hev, hb5⟩; obtain rfl := ErrV.nil hev))
                go_roundg (gk - 1)
                case measure => have := HK.out; omega
                case rel => exact ⟨j + 1, rfl, by simp, hr, ⟨by have := HK.out; omega⟩, ⟨by repeat (first | exact below_step (by repeat (first | exact HW.out | apply below_drew1 | apply pw_below_drewN)) hb5 | apply below_drew1 | apply pw_below_drewN)⟩⟩
              | false =>
                obtain rfl : r = false := by simpa using hif.out
                go_wp2_with (first | (go_at_call 50; refine (gronx_zzIndex.calls k _ _ _ _ h5'.out).mono ?_; rintro e wz ⟨rfl, ⟨nd, rfl⟩⟩; clear h5') | (go_at_call 50; refine (gronx_zzIndex.calls k _ _ _ _ h3'.out).mono ?_; rintro e wz ⟨rfl, ⟨nd2, rfl⟩⟩) | (go_at_call 111; refine (hA.out C _ (cell_after (by repeat (first | exact Below.refl _ _ | apply below_drew1 | apply pw_below_drewN)) gc0.out) (cell_after (by repeat (first | exact Below.refl _ _ | apply below_drew1 | apply pw_below_drewN)) gc1.out) (cell_after (by repeat (first | exact Below.refl _ _ | apply below_drew1 | apply pw_below_drewN)) gc2.out)).mono ?_; rintro e w5 ⟨ev, rfl, hev, hb5⟩; obtain rfl := ErrV.nil hev))
                go_ret2
                exact ⟨_, rfl, .inl ⟨rfl, rfl⟩, below_step (by repeat (first | exact HW.out | apply below_drew1 | apply pw_below_drewN)) hb5⟩
            · have z3' : (i3 == 0) = false := beq_eq_false_iff_ne.mpr z3
              have hs3 : t3 = ⟨#[63]⟩ := by rcases hxx with h | h | h; exact absurd h z5; exact absurd h z3; exact h
              rw [hs3] at hx3 hx3' h3'
              clear hxx
              cases b with
              | true =>
                have hr := Aside0.mk (show DueR x segs (segs.length - (j + 1)) r by rw [show segs.length - (j + 1) = q by have := hq.out; omega]; simpa using hif.out)
                go_wp2_with (first | (go_at_call 50; refine (gronx_zzIndex.calls k _ _ _ _ h5'.out).mono ?_; rintro e wz ⟨rfl, ⟨nd, rfl⟩⟩; clear h5') | (go_at_call 50; refine (gronx_zzIndex.calls k _ _ _ _ h3'.out).mono ?_; rintro e wz ⟨rfl, ⟨nd2, rfl⟩⟩) | (go_at_call 111; refine (hA.out C _ (cell_after (by repeat (first | exact Below.refl _ _ | apply below_drew1 | apply pw_below_drewN)) gc0.out) (cell_after (by repeat (first | exact Below.refl _ _ | apply below_drew1 | apply pw_below_drewN)) gc1.out) (cell_after (by repeat (first | exact Below.refl _ _ | apply below_drew1 | apply pw_below_drewN)) gc2.out)).mono ?_; rintro e w5 ⟨ev, rfl, hev, hb5⟩; obtain rfl := ErrV.nil hev))
                go_roundg (gk - 1)
                case measure => have := HK.out; omega
                case rel => exact ⟨j + 1, rfl, by simp, hr, ⟨by have := HK.out; omega⟩, ⟨by repeat (first | exact below_step (by repeat (first | exact HW.out | apply below_drew1 | apply pw_below_drewN)) hb5 | apply below_drew1 | apply pw_below_drewN)⟩⟩
              | false =>
                obtain rfl : r = false := by simpa using hif.out
                go_wp2_with (first | (go_at_call 50; refine (gronx_zzIndex.calls k _ _ _ _ h5'.out).mono ?_; rintro e wz ⟨rfl, ⟨nd, rfl⟩⟩; clear h5') | (go_at_call 50; refine (gronx_zzIndex.calls k _ _ _ _ h3'.out).mono ?_; rintro e wz ⟨rfl, ⟨nd2, rfl⟩⟩) | (go_at_call 111; refine (hA.out C _ (cell_after (by repeat (first | exact Below.refl _ _ | apply below_drew1 | apply pw_below_drewN)) gc0.out) (cell_after (by repeat (first | exact Below.refl _ _ | apply below_drew1 | apply pw_below_drewN)) gc1.out) (cell_after (by repeat (first | exact Below.refl _ _ | apply below_drew1 | apply pw_below_drewN)) gc2.out)).mono ?_; rintro e w5 ⟨ev, rfl, hev, hb5⟩; obtain rfl := ErrV.nil hev))
                go_ret2
                exact ⟨_, rfl, .inl ⟨rfl, rfl⟩, below_step (by repeat (first | exact HW.out | apply below_drew1 | apply pw_below_drewN)) hb5⟩
        · have b5 : ((q : Int) == 5) = false := by simp; omega
          have b5' : ((q : Int) = 5) = False := by simp; omega
          clear e5 n42 n63
          generalize segs[q] = sq at hx0 hA s1 s2 s3
          by_cases e3 : q = 3
          · have b3 : ((q : Int) = 3) = True := by simp; omega
            have b3' : ((q : Int) == 3) = true := by simp; omega
            clear e3
            cases b with
            | true =>
              have hr := Aside0.mk (show DueR x segs (segs.length - (j + 1)) r by rw [show segs.length - (j + 1) = q by have := hq.out; omega]; simpa using hif.out)
              go_wp2_with (go_at_call 111; refine (hA.out C _ (cell_after (by repeat (first | exact Below.refl _ _ | apply below_drew1 | apply pw_below_drewN)) gc0.out) (cell_after (by repeat (first | exact Below.refl _ _ | apply below_drew1 | apply pw_below_drewN)) gc1.out) (cell_after (by repeat (first | exact Below.refl _ _ | apply below_drew1 | apply pw_below_drewN)) gc2.out)).mono ?_; rintro e w5 ⟨ev, rfl, hev, hb5⟩; obtain rfl := ErrV.nil hev)
              go_roundg (gk - 1)
              case measure => have := HK.out; omega
              case rel => exact ⟨j + 1, rfl, by simp, hr, ⟨by have := HK.out; omega⟩, ⟨by repeat (first | exact below_step (by repeat (first | exact HW.out | apply below_drew1 | apply pw_below_drewN)) hb5 | apply below_drew1 | apply pw_below_drewN)⟩⟩
            | false =>
              obtain rfl : r = false := by simpa using hif.out
              go_wp2_with (go_at_call 111; refine (hA.out C _ (cell_after (by repeat (first | exact Below.refl _ _ | apply below_drew1 | apply pw_below_drewN)) gc0.out) (cell_after (by repeat (first | exact Below.refl _ _ | apply below_drew1 | apply pw_below_drewN)) gc1.out) (cell_after (by repeat (first | exact Below.refl _ _ | apply below_drew1 | apply pw_below_drewN)) gc2.out)).mono ?_; rintro e w5 ⟨ev, rfl, hev, hb5⟩; obtain rfl := ErrV.nil hev)
              go_ret2
              exact ⟨_, rfl, .inl ⟨rfl, rfl⟩, below_step (by repeat (first | exact HW.out | apply below_drew1 | apply pw_below_drewN)) hb5⟩
          · have b3 : ((q : Int) = 3) = False := by simp; omega
            have b3' : ((q : Int) == 3) = false := by simp; omega
            clear e3
            cases b with
            | true =>
              have hr := Aside0.mk (show DueR x segs (segs.length - (j + 1)) r by rw [show segs.length - (j + 1) = q by have := hq.out; omega]; simpa using hif.out)
              go_wp2_with (go_at_call 111; refine (hA.out C _ (cell_after (by repeat (first | exact Below.refl _ _ | apply below_drew1 | apply pw_below_drewN)) gc0.out) (cell_after (by repeat (first | exact Below.refl _ _ | apply below_drew1 | apply pw_below_drewN)) gc1.out) (cell_after (by repeat (first | exact Below.refl _ _ | apply below_drew1 | apply pw_below_drewN)) gc2.out)).mono ?_; rintro e w5 ⟨ev, rfl, hev, hb5⟩; obtain rfl := ErrV.nil hev)
              go_roundg (gk - 1)
              case measure => have := HK.out; omega
              case rel => exact ⟨j + 1, rfl, by simp, hr, ⟨by have := HK.out; omega⟩, ⟨by repeat (first | exact below_step (by repeat (first | exact HW.out | apply below_drew1 | apply pw_below_drewN)) hb5 | apply below_drew1 | apply pw_below_drewN)⟩⟩
            | false =>
              obtain rfl : r = false := by simpa using hif.out
              go_wp2_with (go_at_call 111; refine (hA.out C _ (cell_after (by repeat (first | exact Below.refl _ _ | apply below_drew1 | apply pw_below_drewN)) gc0.out) (cell_after (by repeat (first | exact Below.refl _ _ | apply below_drew1 | apply pw_below_drewN)) gc1.out) (cell_after (by repeat (first | exact Below.refl _ _ | apply below_drew1 | apply pw_below_drewN)) gc2.out)).mono ?_; rintro e w5 ⟨ev, rfl, hev, hb5⟩; obtain rfl := ErrV.nil hev)
              go_ret2
              exact ⟨_, rfl, .inl ⟨rfl, rfl⟩, below_step (by repeat (first | exact HW.out | apply below_drew1 | apply pw_below_drewN)) hb5⟩
    · have qj0 : decide ((j : Int) < (segs.length : Int)) = false := decide_eq_false (by omega)
      have HD' := HD.out
      rw [show segs.length - j = 0 by omega] at HD'
      obtain rfl : r = true := HD'
      go_wp2
      go_ret2
      exact ⟨_, rfl, .inl ⟨rfl, rfl⟩, HW.out⟩
end Go.Proofs.YtemgofomhjabpaaGreatDoor.Core
namespace Go.Proofs.YtemgofomhjabpaaGreatDoor.Core
open Go.RowKit Go.Proofs.YtemgofomhjabpaaGreatDoorW.PrintWords
theorem new_c (w : World) : Calls Tryz.prog 31 #[] w fun e w' => ∃ G C v0 v1 v2, e = .returned (.pointer (some ⟨G, 0, none⟩)) ∧ w'.cell? ⟨G, 0, none⟩ = some (.iface 92 (.pointer (some ⟨C, 0, none⟩))) ∧ w'.cell? ⟨C, 0, none⟩ = some v0 ∧ w'.cell? ⟨C, 1, none⟩ = some v1 ∧ w'.cell? ⟨C, 2, none⟩ = some v2 ∧
    w'.frozen? ⟨C, 0, none⟩ = false ∧ w'.frozen? ⟨C, 1, none⟩ = false ∧ w'.frozen? ⟨C, 2, none⟩ = false ∧ w.heap.size ≤ C ∧ C < G ∧ Below w.heap.size w w' := by
  refine (new_w w).mono ?_
  rintro e w' ⟨rfl, rfl⟩
  exact ⟨w.heap.size + 1, w.heap.size, _, _, _, rfl, by simp [go_sem], by simp [go_sem]; rfl, by simp [go_sem]; rfl, by simp [go_sem]; rfl, by simp [go_sem], by simp [go_sem], by simp [go_sem], Nat.le_refl _, Nat.lt_succ_self _, below_alloc (below_alloc (Below.refl _ _) _) _⟩
def SM (n : Nat) (y mo d h mi s : Int) (w' : World) : Prop := n < w'.heap.size ∧ w'.cell? ⟨n, 0, none⟩ = some (.int .i64 y) ∧ w'.cell? ⟨n, 1, none⟩ = some (.int .i64 mo) ∧ w'.cell? ⟨n, 2, none⟩ = some (.int .i64 d) ∧ w'.cell? ⟨n, 3, none⟩ = some (.int .i64 h) ∧ w'.cell? ⟨n, 4, none⟩ = some (.int .i64 mi) ∧ w'.cell? ⟨n, 5, none⟩ = some (.int .i64 s)
theorem SM.below {n B : Nat} {y mo d h mi s : Int} {a b : World} (hb : Below B a b) (hn : n < B) (hS : SM n y mo d h mi s a) : SM n y mo d h mi s b := by
  have hk := fun j v (e : a.cell? ⟨n, j, none⟩ = some v) => (show b.cell? ⟨n, j, none⟩ = some v by rw [← e]; simp only [World.cell?, hb.block n hn])
  obtain ⟨h0, h1, h2, h3, h4, h5, h6⟩ := hS
  exact ⟨Nat.lt_of_lt_of_le h0 hb.size, hk _ _ h1, hk _ _ h2, hk _ _ h3, hk _ _ h4, hk _ _ h5, hk _ _ h6⟩
theorem SM.step {n : Nat} {y mo d h mi s : Int} {a b : World} (hb : Below a.heap.size a b) (hS : SM n y mo d h mi s a) : SM n y mo d h mi s b := SM.below hb hS.1 hS
theorem SM.lt {n : Nat} {y mo d h mi s : Int} {a : World} (hS : SM n y mo d h mi s a) : n < a.heap.size := hS.1
theorem frz_after {a b : World} {p : Addr} (hb : Below a.heap.size a b) (hl : p.block < a.heap.size) (h : a.frozen? p = false) : b.frozen? p = false := (hb.frozen hl).trans h
theorem al3 {w : World} {a b c : Value} {t : TypeId} : (w.alloc (.cells #[a, b, c] t)).cell? ⟨w.heap.size, 0, none⟩ = some a ∧ (w.alloc (.cells #[a, b, c] t)).cell? ⟨w.heap.size, 1, none⟩ = some b ∧ (w.alloc (.cells #[a, b, c] t)).cell? ⟨w.heap.size, 2, none⟩ = some c := by
  refine ⟨?_, ?_, ?_⟩ <;> simp [go_sem]
set_option maxRecDepth 100000 in
set_option maxHeartbeats 2000000 in
theorem due_w {y mo d h mi s : Int} (hd : DateOk y mo d) (hc : ClockOk h mi s) (expr : ByteArray) (k : Nat) (segs : List ByteArray) (hS : gronx_Segments.f k expr = some (segs, none)) (r : Bool) (hD : ∀ G C, DueW G C (extOf y mo d h mi s) segs r false) : DueC expr y mo d h mi s r true := by
  intro w
  have hd := Aside0.mk hd
  have hc := Aside0.mk hc
  have hD := Aside0.mk hD
  have hS := Aside0.mk hS
  go_enter Tryz.func14, Tryz.ntmps14
  go_wp2
  go_region_held (fun w' => w.heap.size < w'.heap.size ∧ w'.cell? ⟨w.heap.size, 0, none⟩ = some (.int .i64 y) ∧ w'.cell? ⟨w.heap.size, 1, none⟩ = some (.int .i64 mo) ∧ w'.cell? ⟨w.heap.size, 2, none⟩ = some (.int .i64 d) ∧ w'.cell? ⟨w.heap.size, 3, none⟩ = some (.int .i64 h) ∧ w'.cell? ⟨w.heap.size, 4, none⟩ = some (.int .i64 mi) ∧ w'.cell? ⟨w.heap.size, 5, none⟩ = some (.int .i64 s))
    (first | exact SM.step ((Below.refl _ _).alloc (Nat.le_refl _) _) (by assumption) | exact SM.step hbn (by assumption) | exact SM.step hbt (by assumption) | exact SM.below hb3 hlt (by assumption) | go_keep | (trace_state; fail)) (first | (go_at_call 31; refine (new_c _).mono ?_; rintro e wn ⟨G, C, v0, v1, v2, rfl, hg, hc0, hc1, hc2, hf0, hf1, hf2, hC, hCG, hbn⟩; have hlt : w.heap.size < C := Nat.lt_of_lt_of_le (SM.lt (y := y) (mo := mo) (d := d) (h := h) (mi := mi) (s := s) (by assumption)) hC) | (go_at_call 33; refine (timeOf_w hd.out hc.out _).mono ?_; rintro e wt ⟨rfl, hbt⟩) | (go_at_call 32; refine (isDue_w C G C _ (extOf y mo d h mi s) expr k segs hS.out r false (hD.out G C) _ v0 v1 v2 (by first | exact hg | exact cell_after ((Below.refl _ _).alloc (Nat.le_refl _) _) hg | exact cell_after hbt hg | exact cell_after ((Below.refl _ _).alloc (Nat.le_refl _) _) (cell_after hbt hg)) (by first | exact hc0 | exact cell_after ((Below.refl _ _).alloc (Nat.le_refl _) _) hc0 | exact cell_after hbt hc0 | exact cell_after ((Below.refl _ _).alloc (Nat.le_refl _) _) (cell_after hbt hc0)) (by first | exact hc1 | exact cell_after ((Below.refl _ _).alloc (Nat.le_refl _) _) hc1 | exact cell_after hbt hc1 | exact cell_after ((Below.refl _ _).alloc (Nat.le_refl _) _) (cell_after hbt hc1)) (by first | exact hc2 | exact cell_after ((Below.refl _ _).alloc (Nat.le_refl _) _) hc2 | exact cell_after hbt hc2 | exact cell_after ((Below.refl _ _).alloc (Nat.le_refl _) _) (cell_after hbt hc2)) (by first | exact hf0 | exact frz_after ((Below.refl _ _).alloc (Nat.le_refl _) _) (World.block_lt_of_cell? wn ⟨C, 0, none⟩ hc0) hf0 | exact frz_after hbt (World.block_lt_of_cell? wn ⟨C, 0, none⟩ hc0) hf0 | exact frz_after ((Below.refl _ _).alloc (Nat.le_refl _) _) (Nat.lt_of_lt_of_le (World.block_lt_of_cell? wn ⟨C, 0, none⟩ hc0) hbt.size) (frz_after hbt (World.block_lt_of_cell? wn ⟨C, 0, none⟩ hc0) hf0)) (by first | exact hf1 | exact frz_after ((Below.refl _ _).alloc (Nat.le_refl _) _) (World.block_lt_of_cell? wn ⟨C, 0, none⟩ hc0) hf1 | exact frz_after hbt (World.block_lt_of_cell? wn ⟨C, 0, none⟩ hc0) hf1 | exact frz_after ((Below.refl _ _).alloc (Nat.le_refl _) _) (Nat.lt_of_lt_of_le (World.block_lt_of_cell? wn ⟨C, 0, none⟩ hc0) hbt.size) (frz_after hbt (World.block_lt_of_cell? wn ⟨C, 0, none⟩ hc0) hf1)) (by first | exact hf2 | exact frz_after ((Below.refl _ _).alloc (Nat.le_refl _) _) (World.block_lt_of_cell? wn ⟨C, 0, none⟩ hc0) hf2 | exact frz_after hbt (World.block_lt_of_cell? wn ⟨C, 0, none⟩ hc0) hf2 | exact frz_after ((Below.refl _ _).alloc (Nat.le_refl _) _) (Nat.lt_of_lt_of_le (World.block_lt_of_cell? wn ⟨C, 0, none⟩ hc0) hbt.size) (frz_after hbt (World.block_lt_of_cell? wn ⟨C, 0, none⟩ hc0) hf2)) (by first | exact al3.1 | exact cell_after hbn al3.1) (by first | exact al3.2.1 | exact cell_after hbn al3.2.1) (by first | exact al3.2.2 | exact cell_after hbn al3.2.2) (Nat.le_refl _) (Nat.ne_of_lt hCG) (by have h1 : C < wn.heap.size := World.block_lt_of_cell? wn ⟨C, 0, none⟩ hc0; have h2 := hbt.size; have h3 := hbn.size; have h4 := hC; (try simp at h4); (try simp at h3); (try simp at h2); omega)).mono ?_; rintro e w3 ⟨ev, rfl, hev, hb3⟩; obtain rfl := ErrV.nil hev))
  rename_i hHeld
  clear hHeld
  go_wp2
  go_region_held (fun _ => True) (trivial) (fail)
  rename_i hHeld2
  clear hHeld2
  go_wp2
  go_ret2
  have b1 : Below w.heap.size w wn := below_step (by repeat (first | exact Below.refl _ _ | apply below_alloc | apply below_drew1)) hbn
  exact ⟨rfl, ((below_alloc (below_step b1 hbt) _).trans (hb3.mono (Nat.le_of_lt hlt))).drew⟩
end Go.Proofs.YtemgofomhjabpaaGreatDoor.Core
namespace Go.Proofs.YtemgofomhjabpaaGreatDoor.Core
open Go.RowKit Go.Proofs.YtemgofomhjabpaaGreatDoorW.PrintWords
theorem dueL_items (c : Nat) (i : Nat) (hi : i < 6) (l : List It) (hg : ∀ x ∈ l, goodItem i x = true) (n : Int) (n0 : lowI i ≤ n) (n1 : n ≤ highI i) : DueL c n i (l.map fun x => B (itemL x)) (hasF i l n) false := by
  induction l with
  | nil => exact ⟨rfl, rfl⟩
  | cons x t ih =>
    refine ⟨hasIt i x n, false, offC_item c i hi x (hg x (by simp)) n n0 n1, ?_⟩
    have hcons : hasF i (x :: t) n = (hasIt i x n || hasF i t n) := rfl
    rw [hcons]
    cases hb : hasIt i x n with
    | true => rw [if_pos (Or.inl rfl)]; exact ⟨rfl, rfl⟩
    | false => rw [if_neg (by simp), Bool.false_or]; exact ih (fun y hy => hg y (by simp [hy]))
theorem ev_all {α β : Type} (l : List α) (F : α → Nat → Option β) (r : α → β) (h : ∀ a ∈ l, Ev (F a) (r a)) : ∃ K, ∀ k, K ≤ k → ∀ a ∈ l, F a k = some (r a) := by
  induction l with
  | nil => exact ⟨0, fun _ _ _ ha => by cases ha⟩
  | cons x t ih =>
    obtain ⟨K, hK⟩ := ih (fun a ha => h a (by simp [ha]))
    obtain ⟨L, hL⟩ := h x (by simp)
    refine ⟨max K L, fun k hk a ha => ?_⟩
    rcases List.mem_cons.1 ha with rfl | ha
    · exact hL k (by omega)
    · exact hK k (by omega) a ha
theorem itemL_chars (x : It) : ∀ b ∈ itemL x, b = 42 ∨ b = 45 ∨ b = 47 ∨ (48 ≤ b.toNat ∧ b.toNat ≤ 57) := by
  have hs : ∀ b ∈ stepL x.f3, b = 42 ∨ b = 45 ∨ b = 47 ∨ (48 ≤ b.toNat ∧ b.toNat ≤ 57) := by
    intro b hb
    unfold stepL at hb
    split at hb
    · rcases List.mem_cons.1 hb with h | h
      · exact .inr (.inr (.inl h))
      · exact .inr (.inr (.inr (decN_digit _ b h)))
    · cases hb
  intro b hb
  unfold itemL at hb
  split at hb
  · rcases List.mem_cons.1 hb with h | h
    · exact .inl h
    · exact hs b h
  · rcases List.mem_append.1 hb with h | h
    · exact .inr (.inr (.inr (decN_digit _ b h)))
    · rcases List.mem_append.1 h with h | h
      · split at h
        · rcases List.mem_cons.1 h with h | h
          · exact .inr (.inl h)
          · exact .inr (.inr (.inr (decN_digit _ b h)))
        · cases h
      · exact hs b h
theorem itemL_not (x : It) (c : UInt8) (h1 : c ≠ 42) (h2 : c ≠ 45) (h3 : c ≠ 47) (h4 : c.toNat < 48 ∨ 57 < c.toNat) : c ∉ itemL x := fun e => by
  rcases itemL_chars x c e with h | h | h | h
  · exact h1 h
  · exact h2 h
  · exact h3 h
  · omega
theorem segA_parts {x y mo d h mi s : Int} (M : Moment' x y mo d h mi s) (pos : Nat) (hp : pos < 7) (P : List (List UInt8)) (hne : P ≠ []) (h44 : ∀ p ∈ P, 44 ∉ p) (hl : (joinL 44 P).length < 1000000) (hn : P.length < 1000000) (hm : ∀ p ∈ P, p.length < 1000000 ∧ ∀ b ∈ p, b ≠ 76 ∧ b ≠ 87 ∧ b ≠ 35)
    (b er : Bool) (hD : ∀ c, DueL c (posV y mo d h mi s pos) pos (P.map B) b er) : SegA x (B (joinL 44 P)) pos b er := by
  have hs := zzSplit_ev 44 (joinL 44 P) (by omega)
  rw [splitL_join 44 P hne h44] at hs
  obtain ⟨K1, hK1⟩ := hs
  obtain ⟨K2, hK2⟩ := ev_all P (fun p k => gronx_zzContainsAny.f k (B p) (B [76, 87, 35])) (fun _ => false) (fun p hp => by
    have := any_ev p [76, 87, 35] (by have := (hm p hp).1; omega) (by simp)
    rw [show (p.any fun b => ([76, 87, 35] : List UInt8).contains b) = false by
      rw [List.any_eq_false]
      intro b hb
      have := (hm p hp).2 b hb
      simp [this.1, this.2.1, this.2.2]] at this
    exact this)
  refine segA_of M _ pos hp (max K1 K2) (P.map B) (hK1 _ (by omega)) (by rw [List.length_map]; exact hn) (fun _ o ho => ?_) b er hD
  obtain ⟨p, hp, rfl⟩ := List.mem_map.1 ho
  exact hK2 _ (by omega) p hp
theorem posV_range {y mo d h mi s : Int} (hd : DateOk y mo d) (hc : ClockOk h mi s) (i : Nat) (hi : i < 6) : lowI i ≤ posV y mo d h mi s i ∧ posV y mo d h mi s i ≤ highI i := by
  have h31 := (daysI_cases y mo hd.m0 hd.m1).1
  have := hd.d1
  have hw0 : 0 ≤ wdI y mo d := Int.emod_nonneg _ (by decide)
  have hw1 : wdI y mo d < 7 := Int.emod_lt_of_pos _ (by decide)
  match i, hi with
  | 0, _ => exact ⟨hc.s0, hc.s1⟩
  | 1, _ => exact ⟨hc.m0, hc.m1⟩
  | 2, _ => exact ⟨hc.h0, hc.h1⟩
  | 3, _ => exact ⟨hd.d0, by show d ≤ 31; omega⟩
  | 4, _ => exact ⟨hd.m0, hd.m1⟩
  | 5, _ => exact ⟨hw0, by show wdI y mo d ≤ 6; omega⟩
theorem items_small {i : Nat} {l : List It} (hg : goodF i l = true) : (∀ p ∈ l.map itemL, p.length < 1000000 ∧ ∀ b ∈ p, b ≠ 76 ∧ b ≠ 87 ∧ b ≠ 35) ∧ (∀ p ∈ l.map itemL, 44 ∉ p) ∧ l.map itemL ≠ [] ∧ (l.map itemL).length < 1000000 := by
  obtain ⟨h1, h2, h3⟩ := goodF_spec hg
  refine ⟨fun p hp => ?_, fun p hp => ?_, ?_, by rw [List.length_map]; omega⟩
  · obtain ⟨x, hx, rfl⟩ := List.mem_map.1 hp
    have := itemL_length (h1 x hx)
    refine ⟨by omega, fun b hb => ⟨fun e => ?_, fun e => ?_, fun e => ?_⟩⟩ <;> subst e
    · exact itemL_not x _ (by decide) (by decide) (by decide) (by decide) hb
    · exact itemL_not x _ (by decide) (by decide) (by decide) (by decide) hb
    · exact itemL_not x _ (by decide) (by decide) (by decide) (by decide) hb
  · obtain ⟨x, hx, rfl⟩ := List.mem_map.1 hp
    exact itemL_not x 44 (by decide) (by decide) (by decide) (by decide)
  · intro e
    have := congrArg List.length e
    simp at this
    subst this
    simp at h2
theorem segA_field {x y mo d h mi s : Int} (M : Moment' x y mo d h mi s) (i : Nat) (hi : i < 6) (l : List It) (hg : goodF i l = true) : SegA x (B (fieldL l)) i (hasF i l (posV y mo d h mi s i)) false := by
  obtain ⟨q1, q2, q3, q4⟩ := items_small hg
  have hl := fieldL_length hg
  obtain ⟨v0, v1⟩ := posV_range M.date M.clock i hi
  refine segA_parts M i (by omega) (l.map itemL) q3 q2 (by show (fieldL l).length < _; omega) q4 q1 _ false (fun c => ?_)
  rw [List.map_map]
  exact dueL_items c i hi l (goodF_spec hg).1 _ v0 v1
theorem dueR_all (x : Int) (segs : List ByteArray) (bs : Nat → Bool) (h : ∀ (q : Nat) (hq : q < segs.length), (IsStar segs[q] ∧ bs q = true) ∨ (segs[q] ≠ ⟨#[42]⟩ ∧ segs[q] ≠ ⟨#[63]⟩ ∧ SegA x segs[q] q (bs q) false)) :
    ∀ q, q ≤ segs.length → DueR x segs q ((List.range q).all bs) := by
  intro q
  induction q with
  | zero => intro _; exact rfl
  | succ q ih =>
    intro hq
    have hrec := ih (by omega)
    have hall : (List.range (q + 1)).all bs = ((List.range q).all bs && bs q) := by rw [List.range_succ, List.all_append]; simp
    rw [hall]
    rcases h q (by omega) with ⟨hs, hb⟩ | ⟨h1, h2, hA⟩
    · refine .inl ⟨segs[q], List.getElem?_eq_getElem _, hs, ?_⟩
      rw [hb, Bool.and_true]
      exact hrec
    · refine .inr ⟨segs[q], bs q, List.getElem?_eq_getElem _, h1, h2, hA, ?_⟩
      cases hb : bs q with
      | true => rw [if_pos rfl, Bool.and_true]; exact hrec
      | false => rw [if_neg (by simp), Bool.and_false]
end Go.Proofs.YtemgofomhjabpaaGreatDoor.Core
namespace Go.Proofs.YtemgofomhjabpaaGreatDoor.Core
open Go.RowKit Go.Proofs.YtemgofomhjabpaaGreatDoorW.PrintWords
theorem cumI_one (y : Int) : cumI y 1 = 0 := by unfold cumI; rw [if_neg (by omega)]; rfl
theorem cumI_step (y : Int) (j : Int) (h0 : 1 ≤ j) (h1 : j ≤ 11) : cumI y (j + 1) = cumI y j + daysI y j := by
  unfold cumI daysI
  rcases (show j = 1 ∨ j = 2 ∨ j = 3 ∨ j = 4 ∨ j = 5 ∨ j = 6 ∨ j = 7 ∨ j = 8 ∨ j = 9 ∨ j = 10 ∨ j = 11 by omega) with h | h | h | h | h | h | h | h | h | h | h <;> subst h <;> (cases leapI y <;> simp [rd])
theorem weekday_from (y mo : Int) (y0 : 0 ≤ y) (m1 : mo ≤ 12) (base : Int) (b0 : 0 ≤ base) (b1 : base ≤ 1000000) :
    ∀ (d : Nat) (j : Int), (mo - j).toNat = d → 1 ≤ j → j ≤ mo → Ev (fun k => spec_Weekday.l0 k y mo (base + cumI y j) j) ((base + cumI y mo) % 7) := by
  intro d
  induction d with
  | zero =>
    intro j hd h1 h2
    obtain rfl : j = mo := by omega
    have hc := cumI_range y j h1 m1
    refine Ev.done fun k => ?_
    simp only [spec_Weekday.l0]
    rw [if_neg (by omega), Int.tmod_eq_emod_of_nonneg (by omega)]
  | succ d ih =>
    intro j hd h1 h2
    have hlt : j < mo := by omega
    have hc := cumI_range y j h1 (by omega)
    have hc2 := cumI_range y (j + 1) (by omega) (by omega)
    have hst := cumI_step y j h1 (by omega)
    have hrec := ih (j + 1) (by omega) (by omega) (by omega)
    refine Ev.step (fun k => ?_) hrec
    simp only [spec_Weekday.l0, days_some y j y0 h1 (by omega), Option.bind_some]
    rw [if_pos hlt, wrap64_id (by omega) (by omega), wrap64_id (by omega) (by omega), show base + cumI y j + daysI y j = base + cumI y (j + 1) by omega]
theorem weekday_ev {y mo d : Int} (h : DateOk y mo d) : Ev (fun k => spec_Weekday.f k y mo d) (wdI y mo d) := by
  have y0 := h.y0
  have y1 := h.y1
  have h31 := (daysI_cases y mo h.m0 h.m1).1
  have d0 := h.d0
  have d1 := h.d1
  unfold spec_Weekday.f
  have e : wrap64 ((wrap64 ((wrap64 ((wrap64 ((wrap64 ((wrap64 (y - 1)) * 365)) + (wrap64 (Int.tdiv (wrap64 (y - 1)) 4)))) - (wrap64 (Int.tdiv (wrap64 (y - 1)) 100)))) + (wrap64 (Int.tdiv (wrap64 (y - 1)) 400)))) + d) = ((y - 1) * 365 + (y - 1) / 4 - (y - 1) / 100 + (y - 1) / 400 + d) + cumI y 1 := by
    rw [cumI_one, wrap64_id (i := y - 1) (by omega) (by omega), Int.tdiv_eq_ediv_of_nonneg (show 0 ≤ y - 1 by omega), Int.tdiv_eq_ediv_of_nonneg (show 0 ≤ y - 1 by omega), Int.tdiv_eq_ediv_of_nonneg (show 0 ≤ y - 1 by omega)]
    unfold wrap64
    omega
  rw [e]
  have := weekday_from y mo (by omega) h.m1 ((y - 1) * 365 + (y - 1) / 4 - (y - 1) / 100 + (y - 1) / 400 + d) (by omega) (by omega) (mo - 1).toNat 1 rfl (by omega) h.m0
  exact this
def fitB (Fs : List (List It)) (y mo d h mi s : Int) : Bool := (List.range 6).all fun q => hasF q (Fs.getD q []) (posV y mo d h mi s q)
theorem fits_ev (f0 f1 f2 f3 f4 f5 : List It) (secs : Bool) {y mo d h mi s : Int} (hd : DateOk y mo d) (hc : ClockOk h mi s) (h0 : goodF 0 f0 = true) (h1 : goodF 1 f1 = true) (h2 : goodF 2 f2 = true) (h3 : goodF 3 f3 = true) (h4 : goodF 4 f4 = true) (h5 : goodF 5 f5 = true) :
    Ev (fun k => spec_Fits.f k [f0, f1, f2, f3, f4, f5] secs y mo d h mi s) (fitB [f0, f1, f2, f3, f4, f5] y mo d h mi s) := by
  have h31 := (daysI_cases y mo hd.m0 hd.m1).1
  have d0 := hd.d0
  have d1 := hd.d1
  have m0 := hd.m0
  have m1 := hd.m1
  have c0 := hc.h0
  have c1 := hc.h1
  have c2 := hc.m0
  have c3 := hc.m1
  have c4 := hc.s0
  have c5 := hc.s1
  have hw0 : 0 ≤ wdI y mo d := Int.emod_nonneg _ (by decide)
  have hw1 : wdI y mo d < 7 := Int.emod_lt_of_pos _ (by decide)
  have e0 := has_ev 0 (by decide) f0 h0 s (by omega) (by omega)
  have e1 := has_ev 1 (by decide) f1 h1 mi (by omega) (by omega)
  have e2 := has_ev 2 (by decide) f2 h2 h (by omega) (by omega)
  have e3 := has_ev 3 (by decide) f3 h3 d (by omega) (by omega)
  have e4 := has_ev 4 (by decide) f4 h4 mo (by omega) (by omega)
  have e5 := has_ev 5 (by decide) f5 h5 (wdI y mo d) (by omega) (by omega)
  have eW := weekday_ev hd
  have hv : fitB [f0, f1, f2, f3, f4, f5] y mo d h mi s = (hasF 0 f0 s && (hasF 1 f1 mi && (hasF 2 f2 h && (hasF 3 f3 d && (hasF 4 f4 mo && (hasF 5 f5 (wdI y mo d) && true)))))) := rfl
  have hday : Ev (fun k => spec_DayFits.f k [f0, f1, f2, f3, f4, f5] secs y mo d h mi s) (hasF 3 f3 d && (hasF 4 f4 mo && hasF 5 f5 (wdI y mo d))) := by
    unfold spec_DayFits.f
    refine Ev.congr (fun k => if_pos (by simp)) (Ev.bind e3 ?_)
    cases hasF 3 f3 d with
    | false => exact Ev.const rfl
    | true =>
      refine Ev.congr (fun k => (if_pos rfl).trans (if_pos (by simp))) (Ev.bind e4 ?_)
      cases hasF 4 f4 mo with
      | false => exact Ev.const rfl
      | true =>
        refine Ev.congr (fun k => (if_pos rfl).trans (if_pos (by simp))) (Ev.bind eW (Ev.bind e5 (Ev.const ?_)))
        simp
  unfold spec_Fits.f
  refine Ev.bind hday ?_
  rw [hv]
  cases hb : (hasF 3 f3 d && (hasF 4 f4 mo && hasF 5 f5 (wdI y mo d))) with
  | false =>
    refine Ev.const ?_
    revert hb
    cases hasF 3 f3 d <;> cases hasF 4 f4 mo <;> cases hasF 5 f5 (wdI y mo d) <;> simp
  | true =>
    have hb3 : hasF 3 f3 d = true := by simp at hb; exact hb.1
    have hb4 : hasF 4 f4 mo = true := by simp at hb; exact hb.2.1
    have hb5 : hasF 5 f5 (wdI y mo d) = true := by simp at hb; exact hb.2.2
    rw [hb3, hb4, hb5]
    refine Ev.congr (fun k => (if_pos rfl).trans (if_pos (by simp))) (Ev.bind e2 ?_)
    cases hasF 2 f2 h with
    | false => exact Ev.const (by simp)
    | true =>
      refine Ev.congr (fun k => (if_pos rfl).trans (if_pos (by simp))) (Ev.bind e1 ?_)
      cases hasF 1 f1 mi with
      | false => exact Ev.const (by simp)
      | true =>
        refine Ev.congr (fun k => (if_pos rfl).trans (if_pos (by simp))) (Ev.bind e0 (Ev.const ?_))
        simp
end Go.Proofs.YtemgofomhjabpaaGreatDoor.Core
namespace Go.Proofs.YtemgofomhjabpaaGreatDoor.Core
open Go.RowKit Go.Proofs.YtemgofomhjabpaaGreatDoorW.PrintWords
theorem joinL_single (c : UInt8) (P : List (List UInt8)) (hne : P ≠ []) (hP : ∀ p ∈ P, p ≠ []) (a : UInt8) (h : joinL c P = [a]) : P = [[a]] := by
  match P, hne with
  | [p], _ => rw [joinL] at h; rw [h]
  | p :: q :: t, _ =>
    exfalso
    have h1 := hP p (by simp)
    have h2 := joinL_ne c (q :: t) (by simp) (fun p hp => hP p (by simp [hp]))
    rw [joinL] at h
    have := congrArg List.length h
    simp only [List.length_append, List.length_cons, List.length_nil] at this
    have l1 := List.length_pos_iff.2 h1
    omega
theorem field_star {i : Nat} {l : List It} (hg : goodF i l = true) (h : fieldL l = [42]) : starF l = true := by
  obtain ⟨h1, h2, h3⟩ := goodF_spec hg
  have e := joinL_single 44 (l.map itemL) (by intro e; have := congrArg List.length e; simp at this; subst this; simp at h2) (fun p hp => by obtain ⟨x, _, rfl⟩ := List.mem_map.1 hp; exact itemL_ne x) 42 h
  have hl1 : l.length = 1 := by have := congrArg List.length e; simpa using this
  obtain ⟨x, rfl⟩ := List.length_eq_one_iff.1 hl1
  have hx : itemL x = [42] := by simpa using e
  obtain ⟨s1, _, _⟩ := goodItem_spec (h1 x (by simp))
  cases h0 : x.f0 with
  | false =>
    exfalso
    unfold itemL at hx
    rw [h0] at hx
    exact dec_ne' x.f1.toNat _ 42 [] (by decide) hx
  | true =>
    by_cases hs : 1 < x.f3
    · exfalso
      simp [itemL, h0, stepL, hs] at hx
    · have : x.f3 = 1 := by omega
      simp [starF, h0, this]
theorem star_field {l : List It} (h : starF l = true) : fieldL l = [42] ∧ ∃ x, l = [x] ∧ x.f0 = true ∧ x.f3 = 1 := by
  unfold starF at h
  split at h
  · rename_i x
    simp only [Bool.and_eq_true, beq_iff_eq] at h
    exact ⟨by simp [fieldL, joinL, itemL, stepL, h.1, h.2], x, rfl, h.1, h.2⟩
  · cases h
theorem star_has {i : Nat} {l : List It} (h : starF l = true) (n : Int) (n0 : lowI i ≤ n) (n1 : n ≤ highI i) : hasF i l n = true := by
  obtain ⟨_, x, rfl, h0, h1⟩ := star_field h
  simp [hasF, hasIt, h0, h1, n0, n1, Int.emod_one]
theorem field_no63 {i : Nat} {l : List It} (hg : goodF i l = true) : fieldL l ≠ [63] := by
  intro h
  obtain ⟨h1, h2, h3⟩ := goodF_spec hg
  have e := joinL_single 44 (l.map itemL) (by intro e; have := congrArg List.length e; simp at this; subst this; simp at h2) (fun p hp => by obtain ⟨x, _, rfl⟩ := List.mem_map.1 hp; exact itemL_ne x) 63 h
  have : ([63] : List UInt8) ∈ l.map itemL := by rw [e]; simp
  obtain ⟨x, _, hx⟩ := List.mem_map.1 this
  exact itemL_not x 63 (by decide) (by decide) (by decide) (by decide) (by rw [hx]; simp)
end Go.Proofs.YtemgofomhjabpaaGreatDoor.Core
namespace Go.Proofs.YtemgofomhjabpaaGreatDoor.Core
open Go.RowKit Go.Proofs.YtemgofomhjabpaaGreatDoorW.PrintWords
set_option maxRecDepth 100000 in
set_option maxHeartbeats 2000000 in
theorem mg_5 (y mo d h mi s : Int) (a0 : 1990 ≤ y) (a1 : y ≤ 2090) (a2 : 1 ≤ mo) (a3 : mo ≤ 12) (a4 : 1 ≤ d) (a5 : ¬ d ≤ daysI y mo) : GoodC y mo d h mi s false := by
  intro w
  have hdy := Aside0.mk (days_some y mo (by omega) a2 a3)
  replace a5 : (d ≤ daysI y mo) = False := eq_false a5
  go_enter Tryz.func22, Tryz.ntmps22
  go_wp2
  go_quiet (first | (go_at_call 37; exact days_quiet y mo hdy.out _ _))
  go_wp2
  go_ret
  exact ⟨rfl, by repeat (first | exact Below.refl _ _ | apply below_alloc | apply below_drew1 | apply pw_below_drewN)⟩
set_option maxRecDepth 100000 in
set_option maxHeartbeats 2000000 in
theorem mg_6 (y mo d h mi s : Int) (a0 : 1990 ≤ y) (a1 : y ≤ 2090) (a2 : 1 ≤ mo) (a3 : mo ≤ 12) (a4 : 1 ≤ d) (a5 : d ≤ daysI y mo) (a6 : ¬ 0 ≤ h) : GoodC y mo d h mi s false := by
  intro w
  have hdy := Aside0.mk (days_some y mo (by omega) a2 a3)
  replace a6 : (0 ≤ h) = False := eq_false a6
  go_enter Tryz.func22, Tryz.ntmps22
  go_wp2
  go_quiet (first | (go_at_call 37; exact days_quiet y mo hdy.out _ _))
  go_wp2
  go_ret
  exact ⟨rfl, by repeat (first | exact Below.refl _ _ | apply below_alloc | apply below_drew1 | apply pw_below_drewN)⟩
end Go.Proofs.YtemgofomhjabpaaGreatDoor.Core
namespace Go.Proofs.YtemgofomhjabpaaGreatDoor.Core
open Go.RowKit Go.Proofs.YtemgofomhjabpaaGreatDoorW.PrintWords
set_option maxRecDepth 100000 in
set_option maxHeartbeats 2000000 in
theorem mg_7 (y mo d h mi s : Int) (a0 : 1990 ≤ y) (a1 : y ≤ 2090) (a2 : 1 ≤ mo) (a3 : mo ≤ 12) (a4 : 1 ≤ d) (a5 : d ≤ daysI y mo) (a6 : 0 ≤ h) (a7 : ¬ h ≤ 23) : GoodC y mo d h mi s false := by
  intro w
  have hdy := Aside0.mk (days_some y mo (by omega) a2 a3)
  replace a7 : (h ≤ 23) = False := eq_false a7
  go_enter Tryz.func22, Tryz.ntmps22
  go_wp2
  go_quiet (first | (go_at_call 37; exact days_quiet y mo hdy.out _ _))
  go_wp2
  go_ret
  exact ⟨rfl, by repeat (first | exact Below.refl _ _ | apply below_alloc | apply below_drew1 | apply pw_below_drewN)⟩
set_option maxRecDepth 100000 in
set_option maxHeartbeats 2000000 in
theorem mg_8 (y mo d h mi s : Int) (a0 : 1990 ≤ y) (a1 : y ≤ 2090) (a2 : 1 ≤ mo) (a3 : mo ≤ 12) (a4 : 1 ≤ d) (a5 : d ≤ daysI y mo) (a6 : 0 ≤ h) (a7 : h ≤ 23) (a8 : ¬ 0 ≤ mi) : GoodC y mo d h mi s false := by
  intro w
  have hdy := Aside0.mk (days_some y mo (by omega) a2 a3)
  replace a8 : (0 ≤ mi) = False := eq_false a8
  go_enter Tryz.func22, Tryz.ntmps22
  go_wp2
  go_quiet (first | (go_at_call 37; exact days_quiet y mo hdy.out _ _))
  go_wp2
  go_ret
  exact ⟨rfl, by repeat (first | exact Below.refl _ _ | apply below_alloc | apply below_drew1 | apply pw_below_drewN)⟩
end Go.Proofs.YtemgofomhjabpaaGreatDoor.Core
namespace Go.Proofs.YtemgofomhjabpaaGreatDoor.Core
open Go.RowKit Go.Proofs.YtemgofomhjabpaaGreatDoorW.PrintWords
set_option maxRecDepth 100000 in
set_option maxHeartbeats 2000000 in
theorem mg_9 (y mo d h mi s : Int) (a0 : 1990 ≤ y) (a1 : y ≤ 2090) (a2 : 1 ≤ mo) (a3 : mo ≤ 12) (a4 : 1 ≤ d) (a5 : d ≤ daysI y mo) (a6 : 0 ≤ h) (a7 : h ≤ 23) (a8 : 0 ≤ mi) (a9 : ¬ mi ≤ 59) : GoodC y mo d h mi s false := by
  intro w
  have hdy := Aside0.mk (days_some y mo (by omega) a2 a3)
  replace a9 : (mi ≤ 59) = False := eq_false a9
  go_enter Tryz.func22, Tryz.ntmps22
  go_wp2
  go_quiet (first | (go_at_call 37; exact days_quiet y mo hdy.out _ _))
  go_wp2
  go_ret
  exact ⟨rfl, by repeat (first | exact Below.refl _ _ | apply below_alloc | apply below_drew1 | apply pw_below_drewN)⟩
set_option maxRecDepth 100000 in
set_option maxHeartbeats 2000000 in
theorem mg_10 (y mo d h mi s : Int) (a0 : 1990 ≤ y) (a1 : y ≤ 2090) (a2 : 1 ≤ mo) (a3 : mo ≤ 12) (a4 : 1 ≤ d) (a5 : d ≤ daysI y mo) (a6 : 0 ≤ h) (a7 : h ≤ 23) (a8 : 0 ≤ mi) (a9 : mi ≤ 59) (a10 : ¬ 0 ≤ s) : GoodC y mo d h mi s false := by
  intro w
  have hdy := Aside0.mk (days_some y mo (by omega) a2 a3)
  replace a10 : (0 ≤ s) = False := eq_false a10
  go_enter Tryz.func22, Tryz.ntmps22
  go_wp2
  go_quiet (first | (go_at_call 37; exact days_quiet y mo hdy.out _ _))
  go_wp2
  go_ret
  exact ⟨rfl, by repeat (first | exact Below.refl _ _ | apply below_alloc | apply below_drew1 | apply pw_below_drewN)⟩
end Go.Proofs.YtemgofomhjabpaaGreatDoor.Core
namespace Go.Proofs.YtemgofomhjabpaaGreatDoor.Core
open Go.RowKit Go.Proofs.YtemgofomhjabpaaGreatDoorW.PrintWords
set_option maxRecDepth 100000 in
set_option maxHeartbeats 2000000 in
theorem mg_11 (y mo d h mi s : Int) (a0 : 1990 ≤ y) (a1 : y ≤ 2090) (a2 : 1 ≤ mo) (a3 : mo ≤ 12) (a4 : 1 ≤ d) (a5 : d ≤ daysI y mo) (a6 : 0 ≤ h) (a7 : h ≤ 23) (a8 : 0 ≤ mi) (a9 : mi ≤ 59) (a10 : 0 ≤ s) (a11 : ¬ s ≤ 59) : GoodC y mo d h mi s false := by
  intro w
  have hdy := Aside0.mk (days_some y mo (by omega) a2 a3)
  replace a11 : (s ≤ 59) = False := eq_false a11
  go_enter Tryz.func22, Tryz.ntmps22
  go_wp2
  go_quiet (first | (go_at_call 37; exact days_quiet y mo hdy.out _ _))
  go_wp2
  go_ret
  exact ⟨rfl, by repeat (first | exact Below.refl _ _ | apply below_alloc | apply below_drew1 | apply pw_below_drewN)⟩
set_option maxRecDepth 100000 in
set_option maxHeartbeats 2000000 in
theorem mg_12 (y mo d h mi s : Int) (a0 : 1990 ≤ y) (a1 : y ≤ 2090) (a2 : 1 ≤ mo) (a3 : mo ≤ 12) (a4 : 1 ≤ d) (a5 : d ≤ daysI y mo) (a6 : 0 ≤ h) (a7 : h ≤ 23) (a8 : 0 ≤ mi) (a9 : mi ≤ 59) (a10 : 0 ≤ s) (a11 : s ≤ 59) : GoodC y mo d h mi s true := by
  intro w
  have hdy := Aside0.mk (days_some y mo (by omega) a2 a3)
  go_enter Tryz.func22, Tryz.ntmps22
  go_wp2
  go_quiet (first | (go_at_call 37; exact days_quiet y mo hdy.out _ _))
  go_wp2
  go_ret
  exact ⟨rfl, by repeat (first | exact Below.refl _ _ | apply below_alloc | apply below_drew1 | apply pw_below_drewN)⟩
end Go.Proofs.YtemgofomhjabpaaGreatDoor.Core
namespace Go.Proofs.YtemgofomhjabpaaGreatDoor.Core
open Go.RowKit Go.Proofs.YtemgofomhjabpaaGreatDoorW.PrintWords
theorem goodM_eq (y mo d h mi s : Int) : spec_MomentGood.f y mo d h mi s = some (goodM y mo d h mi s) := by
  unfold goodM
  by_cases b0 : ¬ 1990 ≤ y
  · rw [(mg_0 y mo d h mi s b0).eq, decide_eq_false (fun e => b0 e.1)]
  have a0 : 1990 ≤ y := Decidable.of_not_not b0
  by_cases b1 : ¬ y ≤ 2090
  · rw [(mg_1 y mo d h mi s a0 b1).eq, decide_eq_false (fun e => b1 e.2.1)]
  have a1 : y ≤ 2090 := Decidable.of_not_not b1
  by_cases b2 : ¬ 1 ≤ mo
  · rw [(mg_2 y mo d h mi s a0 a1 b2).eq, decide_eq_false (fun e => b2 e.2.2.1)]
  have a2 : 1 ≤ mo := Decidable.of_not_not b2
  by_cases b3 : ¬ mo ≤ 12
  · rw [(mg_3 y mo d h mi s a0 a1 a2 b3).eq, decide_eq_false (fun e => b3 e.2.2.2.1)]
  have a3 : mo ≤ 12 := Decidable.of_not_not b3
  by_cases b4 : ¬ 1 ≤ d
  · rw [(mg_4 y mo d h mi s a0 a1 a2 a3 b4).eq, decide_eq_false (fun e => b4 e.2.2.2.2.1)]
  have a4 : 1 ≤ d := Decidable.of_not_not b4
  by_cases b5 : ¬ d ≤ daysI y mo
  · rw [(mg_5 y mo d h mi s a0 a1 a2 a3 a4 b5).eq, decide_eq_false (fun e => b5 e.2.2.2.2.2.1)]
  have a5 : d ≤ daysI y mo := Decidable.of_not_not b5
  by_cases b6 : ¬ 0 ≤ h
  · rw [(mg_6 y mo d h mi s a0 a1 a2 a3 a4 a5 b6).eq, decide_eq_false (fun e => b6 e.2.2.2.2.2.2.1)]
  have a6 : 0 ≤ h := Decidable.of_not_not b6
  by_cases b7 : ¬ h ≤ 23
  · rw [(mg_7 y mo d h mi s a0 a1 a2 a3 a4 a5 a6 b7).eq, decide_eq_false (fun e => b7 e.2.2.2.2.2.2.2.1)]
  have a7 : h ≤ 23 := Decidable.of_not_not b7
  by_cases b8 : ¬ 0 ≤ mi
  · rw [(mg_8 y mo d h mi s a0 a1 a2 a3 a4 a5 a6 a7 b8).eq, decide_eq_false (fun e => b8 e.2.2.2.2.2.2.2.2.1)]
  have a8 : 0 ≤ mi := Decidable.of_not_not b8
  by_cases b9 : ¬ mi ≤ 59
  · rw [(mg_9 y mo d h mi s a0 a1 a2 a3 a4 a5 a6 a7 a8 b9).eq, decide_eq_false (fun e => b9 e.2.2.2.2.2.2.2.2.2.1)]
  have a9 : mi ≤ 59 := Decidable.of_not_not b9
  by_cases b10 : ¬ 0 ≤ s
  · rw [(mg_10 y mo d h mi s a0 a1 a2 a3 a4 a5 a6 a7 a8 a9 b10).eq, decide_eq_false (fun e => b10 e.2.2.2.2.2.2.2.2.2.2.1)]
  have a10 : 0 ≤ s := Decidable.of_not_not b10
  by_cases b11 : ¬ s ≤ 59
  · rw [(mg_11 y mo d h mi s a0 a1 a2 a3 a4 a5 a6 a7 a8 a9 a10 b11).eq, decide_eq_false (fun e => b11 e.2.2.2.2.2.2.2.2.2.2.2)]
  have a11 : s ≤ 59 := Decidable.of_not_not b11
  rw [(mg_12 y mo d h mi s a0 a1 a2 a3 a4 a5 a6 a7 a8 a9 a10 a11).eq, decide_eq_true ⟨a0, a1, a2, a3, a4, a5, a6, a7, a8, a9, a10, a11⟩]
end Go.Proofs.YtemgofomhjabpaaGreatDoor.Core
namespace Go.Proofs.YtemgofomhjabpaaGreatDoor.Core
open Go.RowKit Go.Proofs.YtemgofomhjabpaaGreatDoorW.PrintWords
abbrev Ro := S69
def cv (x : Ro) : It := ⟨x.f0, x.f1, x.f2, x.f3⟩
def cvs (raw : List (List Ro)) : List (List It) := raw.map fun l => l.map cv
def fitsB (raw : List (List Ro)) : Bool := decide (raw.length ≤ 2147483647) && raw.all fun l => decide (l.length ≤ 2147483647)
theorem rdRo_at (l : List Ro) (j : Nat) (h : j < l.length) : rd_T69 l (j : Int) = l[j] := by simp [rd_T69, h]
theorem rdRoF_at (l : List (List Ro)) (j : Nat) (h : j < l.length) : rd_L3 l (j : Int) = l[j] := by simp [rd_L3, h]
theorem fits_from (raw : List (List Ro)) (hl : raw.length ≤ 2147483647) :
    ∀ (rest : List (List Ro)) (j : Nat), raw.drop j = rest → j ≤ raw.length → Ev (fun k => laws_zzFits2.l0 k raw (raw.length : Int) (j : Int)) (rest.all fun l => decide (l.length ≤ 2147483647)) := by
  intro rest
  induction rest with
  | nil =>
    intro j hj hjl
    have hlen : raw.length ≤ j := List.drop_eq_nil_iff.1 hj
    refine Ev.done fun k => ?_
    simp only [laws_zzFits2.l0]
    rw [if_neg (by omega)]
    rfl
  | cons x t ih =>
    intro j hj hjl
    have hlt : j < raw.length := by
      rcases Nat.lt_or_ge j raw.length with h | h
      · exact h
      · rw [List.drop_eq_nil_of_le h] at hj; cases hj
    have hx : raw[j] = x := by
      have := List.drop_eq_getElem_cons hlt
      rw [hj] at this
      exact (List.cons.inj this).1.symm
    have ht : raw.drop (j + 1) = t := by rw [← List.drop_drop, hj]; rfl
    have hrd := rdRoF_at raw j hlt
    rw [hx] at hrd
    have hrec := ih (j + 1) ht (by omega)
    rw [List.all_cons]
    by_cases h1 : x.length ≤ 2147483647
    · rw [decide_eq_true h1, Bool.true_and]
      refine Ev.step (f := fun k => laws_zzFits2.l0 k raw (raw.length : Int) ((j + 1 : Nat) : Int)) (fun k => ?_) hrec
      simp only [laws_zzFits2.l0, hrd]
      rw [if_pos (by omega), if_pos (by omega), if_pos (by omega), if_neg (by omega), wrap64_nat j (by omega)]
    · rw [decide_eq_false h1, Bool.false_and]
      refine Ev.done fun k => ?_
      simp only [laws_zzFits2.l0, hrd]
      rw [if_pos (by omega), if_pos (by omega), if_pos (by omega), if_pos (by omega)]
theorem fits2_ev (raw : List (List Ro)) : Ev (fun k => laws_zzFits2.f k raw) (fitsB raw) := by
  unfold fitsB
  by_cases h : raw.length ≤ 2147483647
  · rw [decide_eq_true h, Bool.true_and]
    refine Ev.congr (f := fun k => laws_zzFits2.l0 k raw (raw.length : Int) ((0 : Nat) : Int)) (fun k => ?_) (fits_from raw h raw 0 rfl (Nat.zero_le _))
    unfold laws_zzFits2.f
    rw [if_neg (by omega)]
    rfl
  · rw [decide_eq_false h, Bool.false_and]
    refine Ev.congr (f := fun _ => some false) (fun k => ?_) (Ev.const rfl)
    unfold laws_zzFits2.f
    rw [if_pos (by omega)]
theorem fits1_ev (raw : List (List Ro)) (secs : Bool) : Ev (fun k => laws_zzFits1.f k raw secs) (fitsB raw) := by
  unfold laws_zzFits1.f
  refine Ev.bind (f := fun _ t => if t = true then some true else some false) (fits2_ev raw) (Ev.const ?_)
  cases fitsB raw <;> rfl
theorem fitsB_spec {raw : List (List Ro)} (h : fitsB raw = true) : raw.length ≤ 2147483647 ∧ ∀ l ∈ raw, l.length ≤ 2147483647 := by
  unfold fitsB at h
  simp only [Bool.and_eq_true, decide_eq_true_eq, List.all_eq_true] at h
  exact h
theorem expr_l1 (raw : List (List Ro)) (j : Int) (out : List (List It)) (secs : Bool) (l : List Ro) (hl : l.length ≤ 2147483647) (r : List (List It) × Bool) (ho : out.length < 5864062014805)
    (hn : Ev (fun k => laws_expr.l0 k raw (raw.length : Int) (wrap64 (j + 1)) (out ++ [l.map cv]) secs) r) :
    ∀ (rest : List Ro) (i : Nat), l.drop i = rest → i ≤ l.length → Ev (fun k => laws_expr.l1 k ((l.take i).map cv) raw (raw.length : Int) j l (l.length : Int) (i : Int) out secs) r := by
  intro rest
  induction rest with
  | nil =>
    intro i hi hil
    have hlen : l.length ≤ i := List.drop_eq_nil_iff.1 hi
    refine Ev.step (f := fun k => laws_expr.l0 k raw (raw.length : Int) (wrap64 (j + 1)) (out ++ [l.map cv]) secs) (fun k => ?_) hn
    simp only [laws_expr.l1]
    rw [if_neg (by omega), if_pos ho, List.take_of_length_le hlen]
  | cons x t ih =>
    intro i hi hil
    have hlt : i < l.length := by
      rcases Nat.lt_or_ge i l.length with h | h
      · exact h
      · rw [List.drop_eq_nil_of_le h] at hi; cases hi
    have ht : l.drop (i + 1) = t := by rw [← List.drop_drop, hi]; rfl
    have hrec := ih (i + 1) ht (by omega)
    refine Ev.step (f := fun k => laws_expr.l1 k ((l.take (i + 1)).map cv) raw (raw.length : Int) j l (l.length : Int) ((i + 1 : Nat) : Int) out secs) (fun k => ?_) hrec
    simp only [laws_expr.l1, rdRo_at l i hlt]
    rw [if_pos (by omega), if_pos (by omega), if_pos (by omega), if_pos (by rw [List.length_map, List.length_take]; omega), wrap64_nat i (by omega), List.take_succ_eq_append_getElem hlt, List.map_append]
    rfl
theorem expr_from (raw : List (List Ro)) (secs : Bool) (h : fitsB raw = true) :
    ∀ (rest : List (List Ro)) (j : Nat), raw.drop j = rest → j ≤ raw.length → Ev (fun k => laws_expr.l0 k raw (raw.length : Int) (j : Int) (cvs (raw.take j)) secs) (cvs raw, secs) := by
  obtain ⟨hl, hall⟩ := fitsB_spec h
  intro rest
  induction rest with
  | nil =>
    intro j hj hjl
    have hlen : raw.length ≤ j := List.drop_eq_nil_iff.1 hj
    refine Ev.done fun k => ?_
    simp only [laws_expr.l0]
    rw [if_neg (by omega), List.take_of_length_le hlen]
  | cons x t ih =>
    intro j hj hjl
    have hlt : j < raw.length := by
      rcases Nat.lt_or_ge j raw.length with h | h
      · exact h
      · rw [List.drop_eq_nil_of_le h] at hj; cases hj
    have hx : raw[j] = x := by
      have := List.drop_eq_getElem_cons hlt
      rw [hj] at this
      exact (List.cons.inj this).1.symm
    have ht : raw.drop (j + 1) = t := by rw [← List.drop_drop, hj]; rfl
    have hrd := rdRoF_at raw j hlt
    rw [hx] at hrd
    have hrec := ih (j + 1) ht (by omega)
    have hxl : x.length ≤ 2147483647 := hall x (by rw [← hx]; exact List.getElem_mem hlt)
    have hout : (cvs (raw.take j)).length < 5864062014805 := by unfold cvs; rw [List.length_map, List.length_take]; omega
    have e : cvs (raw.take (j + 1)) = cvs (raw.take j) ++ [x.map cv] := by unfold cvs; rw [List.take_succ_eq_append_getElem hlt, List.map_append, hx]; rfl
    rw [e] at hrec
    have h1 := expr_l1 raw (j : Int) (cvs (raw.take j)) secs x hxl (cvs raw, secs) hout (by rw [wrap64_nat j (by omega)]; exact hrec) x 0 rfl (Nat.zero_le _)
    refine Ev.step (f := fun k => laws_expr.l1 k [] raw (raw.length : Int) (j : Int) x (x.length : Int) 0 (cvs (raw.take j)) secs) (fun k => ?_) h1
    simp only [laws_expr.l0, hrd]
    rw [if_pos (by omega), if_pos (by omega), if_pos (by omega)]
theorem expr_ev (raw : List (List Ro)) (secs : Bool) (h : fitsB raw = true) : Ev (fun k => laws_expr.f k raw secs) (cvs raw, secs) :=
  expr_from raw secs h raw 0 rfl (Nat.zero_le _)
theorem cvs_len {raw : List (List Ro)} (h : fitsB raw = true) : ∀ l ∈ cvs raw, l.length < 4611686018427387904 := by
  intro l hl
  unfold cvs at hl
  obtain ⟨m, hm, rfl⟩ := List.mem_map.1 hl
  have := (fitsB_spec h).2 m hm
  rw [List.length_map]
  omega
end Go.Proofs.YtemgofomhjabpaaGreatDoor.Core
namespace Go.Proofs.YtemgofomhjabpaaGreatDoor.Core
open Go.RowKit Go.Proofs.YtemgofomhjabpaaGreatDoorW.PrintWords
theorem goodM_spec {y mo d h mi s : Int} (hM : goodM y mo d h mi s = true) : DateOk y mo d ∧ ClockOk h mi s := by
  obtain ⟨a0, a1, a2, a3, a4, a5, a6, a7, a8, a9, a10, a11⟩ := of_decide_eq_true hM
  exact ⟨⟨by omega, by omega, a2, a3, a4, a5⟩, ⟨a6, a7, a8, a9, a10, a11⟩⟩
theorem asked_ev (Fs : List (List It)) (secs : Bool) (hl : ∀ l ∈ Fs, l.length < 4611686018427387904) (y mo d h mi s : Int) : Ev (fun k => laws_asked.f k Fs secs y mo d h mi s) (goodE Fs secs && goodM y mo d h mi s) := by
  unfold laws_asked.f
  refine Ev.bind (exprGood_ev Fs secs hl) ?_
  cases goodE Fs secs with
  | false => exact Ev.congr (fun k => if_neg (by simp)) (Ev.now false)
  | true =>
    simp only [if_true, laws_moment.f, Option.bind_some, goodM_eq, Bool.true_and]
    exact Ev.now _
theorem fitsE_ev {Fs : List (List It)} {secs : Bool} (hE : goodE Fs secs = true) {y mo d h mi s : Int} (hd : DateOk y mo d) (hc : ClockOk h mi s) : Ev (fun k => spec_Fits.f k Fs secs y mo d h mi s) (fitB Fs y mo d h mi s) := by
  obtain ⟨f0, f1, f2, f3, f4, f5, rfl, h0, h1, h2, h3, h4, h5, _⟩ := goodE_spec hE
  exact fits_ev f0 f1 f2 f3 f4 f5 secs hd hc h0 h1 h2 h3 h4 h5
end Go.Proofs.YtemgofomhjabpaaGreatDoor.Core
namespace Go.Proofs.YtemgofomhjabpaaGreatDoor.Core
open Go.RowKit Go.Proofs.YtemgofomhjabpaaGreatDoorW.PrintWords
theorem due_segs {y mo d h mi s : Int} (hd : DateOk y mo d) (hc : ClockOk h mi s) (expr : ByteArray) (S : List (List UInt8)) (hS : Ev (fun k => gronx_Segments.f k expr) (S.map B, none)) (h6 : 6 ≤ S.length) (h7 : S.length ≤ 7) (hl : ∀ p ∈ S, p.length < 1000000) (bs : Nat → Bool)
    (hA : ∀ (q : Nat) (hq : q < S.length), ((S[q] = [42] ∨ S[q] = [63]) ∧ bs q = true) ∨ (S[q] ≠ [42] ∧ S[q] ≠ [63] ∧ SegA (extOf y mo d h mi s) (B S[q]) q (bs q) false)) (hx : S[5] = [42] ∨ S[5] = [63] ∨ S[3] = [42] ∨ S[3] = [63]) :
    DueC expr y mo d h mi s ((List.range S.length).all bs) true := by
  obtain ⟨K, hK⟩ := hS
  have l3 := hl S[3] (List.getElem_mem _)
  have l5 := hl S[5] (List.getElem_mem _)
  obtain ⟨K5, hK5⟩ := zzIndex_ev S[5] [42, 47] (by simp) (by omega) (by simp)
  obtain ⟨K3, hK3⟩ := zzIndex_ev S[3] [42] (by simp) (by omega) (by simp)
  refine due_w hd hc _ K _ (hK K (Nat.le_refl _)) _ (fun G C => ?_)
  have g5 : (S.map B)[5]'(by simp; omega) = B S[5] := List.getElem_map _
  have g3 : (S.map B)[3]'(by simp; omega) = B S[3] := List.getElem_map _
  refine segmentsDue_w G C _ _ (max K5 K3) (idxL [42, 47] S[5] 0) (idxL [42] S[3] 0) (by simpa using h6) (by simpa using h7) (by rw [g5]; exact hK5 _ (by omega)) (by rw [g3]; exact hK3 _ (by omega)) ?_ _ ?_
  · rw [g5, g3]
    rcases hx with e | e | e | e
    · exact .inl (.inl (by rw [e]; rfl))
    · exact .inl (.inr (by rw [e]; rfl))
    · exact .inr (.inr (.inl (by rw [e]; rfl)))
    · exact .inr (.inr (.inr (by rw [e]; rfl)))
  · have hr := dueR_all (extOf y mo d h mi s) (S.map B) bs (fun q hq => by
      rw [List.getElem_map]
      have hq' : q < S.length := by simpa using hq
      rcases hA q hq' with ⟨e | e, hb⟩ | ⟨e1, e2, h⟩
      · exact .inl ⟨.inl (by rw [e]; rfl), hb⟩
      · exact .inl ⟨.inr (by rw [e]; rfl), hb⟩
      · exact .inr ⟨fun e => e1 (B_inj e), fun e => e2 (B_inj e), h⟩) S.length (by simp)
    rw [List.length_map]
    exact hr
end Go.Proofs.YtemgofomhjabpaaGreatDoor.Core
namespace Go.Proofs.YtemgofomhjabpaaGreatDoor.Core
open Go.RowKit Go.Proofs.YtemgofomhjabpaaGreatDoorW.PrintWords
theorem due_quest {Fs : List (List It)} (hE : goodE Fs false = true) {y mo d h mi s : Int} (hd : DateOk y mo d) (hc : ClockOk h mi s) (P : List (List UInt8)) (h5 : P.length = 5) (hP : ∀ (i : Nat) (hi : i < P.length), P[i] = fieldL (Fs.getD (i + 1) []) ∨ (P[i] = [63] ∧ starF (Fs.getD (i + 1) []) = true)) : DueC (B (joinL 32 P)) y mo d h mi s (fitB Fs y mo d h mi s) true := by
  have hF := goodE_fs hE
  have M : Moment' (extOf y mo d h mi s) y mo d h mi s := ⟨hd, hc, rfl⟩
  have hg : ∀ q, q < 6 → goodF q (Fs.getD q []) = true := fun q hq => by
    have := hF.2 q (by rw [hF.1]; exact hq)
    rw [show Fs.getD q [] = Fs[q]'(by rw [hF.1]; exact hq) by simp [List.getD, hF.1, hq]]
    exact this
  have hst : starF (Fs.getD 3 []) = true ∨ starF (Fs.getD 5 []) = true := by
    obtain ⟨f0, f1, f2, f3, f4, f5, rfl, _, _, _, _, _, _, hr⟩ := goodE_spec hE
    unfold restE at hr
    simp only [Bool.and_eq_true, Bool.or_eq_true] at hr
    exact hr.1.2
  have hz : zeroF (Fs.getD 0 []) = true := by
    obtain ⟨f0, f1, f2, f3, f4, f5, rfl, _, _, _, _, _, _, hr⟩ := goodE_spec hE
    unfold restE at hr
    simp only [Bool.and_eq_true, Bool.false_or] at hr
    exact hr.1.1
  have hpart : ∀ p ∈ P, PartOk p ∧ p.length ≤ 54 := fun p hp => by
    obtain ⟨i, hi, rfl⟩ := List.mem_iff_getElem.1 hp
    rcases hP i hi with e | ⟨e, _⟩
    · rw [e]
      exact ⟨field_part (hg (i + 1) (by omega)), fieldL_length (hg (i + 1) (by omega))⟩
    · rw [e]
      exact ⟨⟨by simp, by simp⟩, by simp⟩
  have hlen := joinL_length 32 P 54 (fun p hp => (hpart p hp).2)
  have hS := segments_ev P (fun p hp => (hpart p hp).1) (by omega) (by omega) (by omega) (fun h => by omega)
  rw [if_pos (Or.inl h5)] at hS
  have seg : ∀ (q : Nat) (hq : q < ([48] :: P).length), ((([48] :: P)[q] = [42] ∨ ([48] :: P)[q] = [63]) ∧ hasF q (Fs.getD q []) (posV y mo d h mi s q) = true) ∨ (([48] :: P)[q] ≠ [42] ∧ ([48] :: P)[q] ≠ [63] ∧ SegA (extOf y mo d h mi s) (B ([48] :: P)[q]) q (hasF q (Fs.getD q []) (posV y mo d h mi s q)) false) := by
    intro q hq
    have hq6 : q < 6 := by simp at hq; omega
    obtain ⟨v0, v1⟩ := posV_range hd hc q hq6
    have field : ([48] :: P)[q] = fieldL (Fs.getD q []) → _ := fun (e : ([48] :: P)[q] = fieldL (Fs.getD q [])) => (by
      rw [e]
      by_cases e' : fieldL (Fs.getD q []) = [42]
      · exact .inl ⟨.inl e', star_has (field_star (hg q hq6) e') _ v0 v1⟩
      · exact .inr ⟨e', field_no63 (hg q hq6), segA_field M q hq6 _ (hg q hq6)⟩ : ((([48] :: P)[q] = [42] ∨ ([48] :: P)[q] = [63]) ∧ hasF q (Fs.getD q []) (posV y mo d h mi s q) = true) ∨ (([48] :: P)[q] ≠ [42] ∧ ([48] :: P)[q] ≠ [63] ∧ SegA (extOf y mo d h mi s) (B ([48] :: P)[q]) q (hasF q (Fs.getD q []) (posV y mo d h mi s q)) false))
    match q, hq with
    | 0, _ => exact field (by show [48] = _; rw [zeroF_field hz])
    | i + 1, hq =>
      have hi : i < P.length := by simpa using hq
      rcases hP i hi with e | ⟨e, es⟩
      · exact field (by show P[i] = _; exact e)
      · refine .inl ⟨.inr ?_, star_has es _ v0 v1⟩
        show P[i] = [63]
        exact e
  have hfit : fitB Fs y mo d h mi s = (List.range ([48] :: P).length).all fun q => hasF q (Fs.getD q []) (posV y mo d h mi s q) := by
    rw [List.length_cons, h5]; rfl
  rw [hfit]
  refine due_segs hd hc _ ([48] :: P) hS (by simp; omega) (by simp; omega) (fun p hp => ?_) _ seg ?_
  · rcases List.mem_cons.1 hp with e | e
    · subst e; simp
    · have := (hpart p e).2; omega
  · have g : ∀ i (hi : i < P.length), starF (Fs.getD (i + 1) []) = true → P[i] = [42] ∨ P[i] = [63] := fun i hi es => by
      rcases hP i hi with e | ⟨e, _⟩
      · exact .inl (by rw [e, (star_field es).1])
      · exact .inr e
    rcases hst with es | es
    · rcases g 2 (by omega) es with e | e
      · exact .inr (.inr (.inl e))
      · exact .inr (.inr (.inr e))
    · rcases g 4 (by omega) es with e | e
      · exact .inl e
      · exact .inr (.inl e)
end Go.Proofs.YtemgofomhjabpaaGreatDoor.Core
namespace Go.Proofs.YtemgofomhjabpaaGreatDoor.Core
open Go.RowKit Go.Proofs.YtemgofomhjabpaaGreatDoorW.PrintWords
def questB (Fs : List (List It)) (i : Nat) : Bool := decide (fieldL (Fs.getD i []) = [42]) && ((decide (i = 3) && !starF (Fs.getD 5 [])) || (decide (i = 5) && !starF (Fs.getD 3 [])))
def questL (Fs : List (List It)) (i : Nat) : List UInt8 := if questB Fs i = true then [63] else fieldL (Fs.getD i [])
theorem questL_length {Fs : List (List It)} (hg : ∀ q, q < 6 → goodF q (Fs.getD q []) = true) (i : Nat) (hi : i < 6) : (questL Fs i).length ≤ 54 := by
  unfold questL; split
  · simp
  · exact fieldL_length (hg i hi)
theorem quest_step {Fs : List (List It)} (hl : Fs.length = 6) (hg : ∀ q, q < 6 → goodF q (Fs.getD q []) = true) (i : Nat) (h1 : 1 ≤ i) (h5 : i ≤ 5) (acc : List UInt8) (ha : acc.length < 100000) (y mo d h mi s : Int) (secs : Bool) {r : Bool}
    (hrec : Ev (fun k => laws_FnQuestion.l0 k (B (acc ++ ((if 1 < i then [32] else []) ++ questL Fs i))) ((i + 1 : Nat) : Int) y mo d h mi s Fs secs) r) : Ev (fun k => laws_FnQuestion.l0 k (B acc) (i : Int) y mo d h mi s Fs secs) r := by
  have hw := wrap64_nat i (by omega)
  have h63 : (⟨#[63]⟩ : ByteArray) = B [63] := rfl
  have h32 : (⟨#[32]⟩ : ByteArray) = B [32] := rfl
  have r3 : rd_L5 Fs 3 = Fs.getD 3 [] := rfl
  have r5 : rd_L5 Fs 5 = Fs.getD 5 [] := rfl
  have ri : rd_L5 Fs (i : Int) = Fs.getD i [] := by show Fs.getD ((i : Int).toNat) [] = _; rw [Int.toNat_natCast]
  have hfl := fieldL_length (hg i (by omega))
  have key : ∀ b : Bool, b = questB Fs i → Ev (fun k => laws_FnQuestion.j2 k (B acc) (i : Int) (B (fieldL (Fs.getD i []))) b y mo d h mi s Fs secs) r := by
    intro b hb
    refine Ev.step (fun k => ?_) hrec
    simp only [laws_FnQuestion.j2, h32, h63, hw]
    cases b with
    | true =>
      have hq : questL Fs i = [63] := by unfold questL; rw [if_pos hb.symm]
      rw [if_pos rfl, hq]
      by_cases hi : 1 < i
      · rw [if_pos (by omega), B_app, B_app, B_size, B_size, if_pos (by omega), if_pos (by simp; omega), if_pos hi, List.append_assoc]
      · rw [if_neg (by omega), B_app, B_size, if_pos (by omega), if_neg hi, List.nil_append]
    | false =>
      have hq : questL Fs i = fieldL (Fs.getD i []) := by unfold questL; rw [if_neg (by rw [← hb]; simp)]
      rw [if_neg (by simp), hq]
      by_cases hi : 1 < i
      · rw [if_pos (by omega), B_app, B_app, B_size, B_size, B_size, if_pos (by omega), if_pos (by rw [List.length_append]; simp only [List.length_cons, List.length_nil]; omega), if_pos hi, List.append_assoc]
      · rw [if_neg (by omega), B_app, B_size, B_size, if_pos (by omega), if_neg hi, List.nil_append]
  refine Ev.succ ?_
  simp only [laws_FnQuestion.l0, r3, r5, ri, star_some, Option.bind_some]
  refine Ev.congr (fun k => (if_pos (by omega)).trans ((if_pos (by omega)).trans (if_pos (by omega)))) (Ev.bind (field_ev (hg i (by omega))) ?_)
  rw [B_list]
  by_cases e42 : fieldL (Fs.getD i []) = [42]
  · refine Ev.congr (fun k => if_pos e42) ?_
    by_cases e3 : i = 3
    · refine Ev.congr (fun k => (if_pos (by omega)).trans (if_pos (by omega))) ?_
      have e5 : ¬ i = 5 := by omega
      cases hs : starF (Fs.getD 5 []) with
      | true => exact Ev.congr (fun k => (if_pos rfl).trans (if_neg (by omega))) (key false (by unfold questB; rw [hs, decide_eq_false e5]; simp))
      | false => exact Ev.congr (fun k => if_neg (by simp)) (key true (by unfold questB; rw [hs, decide_eq_true e3, decide_eq_true e42]; simp))
    · refine Ev.congr (fun k => if_neg (by omega)) ?_
      by_cases e5 : i = 5
      · exact Ev.congr (fun k => (if_pos (by omega)).trans (if_pos (by omega))) (key _ (by unfold questB; rw [decide_eq_false e3, decide_eq_true e5, decide_eq_true e42]; simp))
      · exact Ev.congr (fun k => if_neg (by omega)) (key false (by unfold questB; rw [decide_eq_false e3, decide_eq_false e5]; simp))
  · exact Ev.congr (fun k => if_neg e42) (key false (by unfold questB; rw [decide_eq_false e42]; simp))
theorem fnQuestion_pure (raw : List (List Ro)) (secs : Bool) (y mo d h mi s : Int) : ∃ k, laws_FnQuestion.f k raw secs y mo d h mi s = some true := by
  refine Ev.rounds (g := fun k => laws_FnQuestion.f k raw secs y mo d h mi s) ?_
  have hT : ∀ Fs sc, Ev (fun k => laws_FnQuestion.j0 k true y mo d h mi s Fs sc) true := fun Fs sc => Ev.done fun k => by simp only [laws_FnQuestion.j0]; rw [if_pos trivial]
  unfold laws_FnQuestion.f
  refine Ev.bind (fits1_ev raw secs) ?_
  cases hf : fitsB raw with
  | false => exact Ev.congr (fun k => if_neg (by simp)) (Ev.now true)
  | true =>
    refine Ev.congr (fun k => if_pos rfl) (Ev.bind (expr_ev raw secs hf) (Ev.bind (asked_ev (cvs raw) secs (cvs_len hf) y mo d h mi s) ?_))
    cases hg : goodE (cvs raw) secs && goodM y mo d h mi s with
    | false => exact Ev.congr (fun k => if_neg (by simp)) (hT _ _)
    | true =>
      simp only [Bool.and_eq_true] at hg
      obtain ⟨hE, hM⟩ := hg
      obtain ⟨hd, hc⟩ := goodM_spec hM
      refine Ev.congr (fun k => if_pos rfl) ?_
      cases secs with
      | true => exact hT _ _
      | false =>
        generalize cvs raw = Fs at hE
        have hF := goodE_fs hE
        have hg : ∀ q, q < 6 → goodF q (Fs.getD q []) = true := fun q hq => by
          have := hF.2 q (by rw [hF.1]; exact hq)
          rw [show Fs.getD q [] = Fs[q]'(by rw [hF.1]; exact hq) by simp [List.getD, hF.1, hq]]
          exact this
        have q1 := questL_length hg 1 (by decide)
        have q2 := questL_length hg 2 (by decide)
        have q3 := questL_length hg 3 (by decide)
        have q4 := questL_length hg 4 (by decide)
        have q5 := questL_length hg 5 (by decide)
        have hdue := (due_quest hE hd hc [questL Fs 1, questL Fs 2, questL Fs 3, questL Fs 4, questL Fs 5] rfl (fun i hi => by
          have hP : [questL Fs 1, questL Fs 2, questL Fs 3, questL Fs 4, questL Fs 5][i] = questL Fs (i + 1) := by
            have hi' : i < 5 := hi
            rcases (show i = 0 ∨ i = 1 ∨ i = 2 ∨ i = 3 ∨ i = 4 by omega) with e | e | e | e | e <;> subst e <;> rfl
          have hi' : i < 5 := hi
          rw [hP]
          unfold questL
          cases hq : questB Fs (i + 1) with
          | false => exact .inl (if_neg (by simp))
          | true =>
            refine .inr ⟨if_pos rfl, field_star (hg (i + 1) (by omega)) ?_⟩
            unfold questB at hq
            simp only [Bool.and_eq_true, decide_eq_true_eq] at hq
            exact hq.1)).eq
        refine Ev.succ ?_
        simp only [laws_FnQuestion.j0, Bool.false_eq_true, if_false]
        refine quest_step hF.1 hg 1 (by decide) (by decide) [] (by simp) y mo d h mi s false ?_
        refine quest_step hF.1 hg 2 (by decide) (by decide) _ (by simp; omega) y mo d h mi s false ?_
        refine quest_step hF.1 hg 3 (by decide) (by decide) _ (by simp; omega) y mo d h mi s false ?_
        refine quest_step hF.1 hg 4 (by decide) (by decide) _ (by simp; omega) y mo d h mi s false ?_
        refine quest_step hF.1 hg 5 (by decide) (by decide) _ (by simp; omega) y mo d h mi s false ?_
        refine Ev.succ ?_
        simp only [laws_FnQuestion.l0]
        refine Ev.congr (fun k => if_neg (by decide)) ?_
        rw [show B ([] ++ ((if 1 < 1 then [32] else []) ++ questL Fs 1) ++ ((if 1 < 2 then [32] else []) ++ questL Fs 2) ++ ((if 1 < 3 then [32] else []) ++ questL Fs 3) ++ ((if 1 < 4 then [32] else []) ++ questL Fs 4) ++ ((if 1 < 5 then [32] else []) ++ questL Fs 5)) = B (joinL 32 [questL Fs 1, questL Fs 2, questL Fs 3, questL Fs 4, questL Fs 5]) by simp [joinL]]
        simp only [hdue, Option.bind_some, if_true, laws_moment.f]
        refine Ev.bind (fitsE_ev hE hd hc) (Ev.const ?_)
        simp
end Go.Proofs.YtemgofomhjabpaaGreatDoor.Core
namespace Go.Proofs.YtemgofomhjabpaaGreatDoor.Core
open Go.RowKit Go.Proofs.YtemgofomhjabpaaGreatDoorW.PrintWords Go.ChangeShapes Go.WideShapes Go.Deep
set_option maxRecDepth 100000
theorem rows_list {α : Type} {Q : Nat → α → Prop} (n : Nat) (h : ∀ i, i < n → ∃ x, Q i x) : ∃ l : List α, l.length = n ∧ ∀ j p, l[j]? = some p → Q j p := by
  induction n with
  | zero => exact ⟨[], rfl, fun j p hj => by simp at hj⟩
  | succ n ih =>
    obtain ⟨l, hl, hq⟩ := ih (fun i hi => h i (by omega))
    obtain ⟨x, hx⟩ := h n (by omega)
    refine ⟨l ++ [x], by simp [hl], fun j p hj => ?_⟩
    rcases Nat.lt_or_ge j l.length with h1 | h1
    · rw [List.getElem?_append_left h1] at hj
      exact hq j p hj
    · rw [List.getElem?_append_right h1] at hj
      have h2 : j - l.length = 0 := by
        rcases Nat.eq_zero_or_pos (j - l.length) with h3 | h3
        · exact h3
        · rw [List.getElem?_eq_none (by simp; omega)] at hj; cases hj
      rw [h2] at hj
      obtain rfl : x = p := by simpa using hj
      obtain rfl : j = n := by omega
      exact hx
section
variable {H : Type} {enc : TypeId × Value → H} {P : Program} {W : World} {spare : Nat → Bool} {held : Bool}
theorem C_of_trod {α : Type} (d : Kd α) {t e : TypeId} (ht : P.underlying t = some (.slice e)) (hC : P.cellsOf e = d.sz)
    (rd : ∀ (n : Nat) (cs : List Value) y, cs.length = P.cellsOf e → DataW.trod enc P W 0 spare held n e cs = some y → ∃ x, d.K W x cs)
    {n : Nat} {va : Value} {y : DataW H × List MemPlace} (h : DataW.trod enc P W 0 spare held n t [va] = some y) :
    ∃ (A : Option Addr) (c : Nat) (l : List α), va = .slice A l.length c ∧ l.length ≤ c ∧ Kd.C d W A l.length l := by
  rcases open_slice ht h with ⟨h0, _⟩ | ⟨a, len, cap, m, n', D, Pl, hcs, _, hl, hm, hmm, _, hi⟩
  · obtain rfl : va = .slice none 0 0 := by simpa using h0
    exact ⟨none, 0, [], rfl, Nat.le_refl _, rfl, by simp, fun h => absurd h (by simp)⟩
  · obtain rfl : va = .slice (some a) len cap := by simpa using hcs
    have hlm : len ≤ m := by rw [hmm]; split <;> omega
    obtain ⟨l, hll, hq⟩ := rows_list (Q := fun i x => ∃ c, c.length = d.sz ∧ d.K W x c ∧ ∀ j u, c[j]? = some u → W.cell? (a.add (i * d.sz + j)) = some u) len (fun i hi' => by
      obtain ⟨cs', hc, htr⟩ := hi i (by omega)
      obtain ⟨_, hcl, hat⟩ := World.cells?_some hc
      obtain ⟨x, hx⟩ := rd _ _ _ hcl htr
      refine ⟨x, cs', by rw [hcl, hC], hx, fun j u hu => ?_⟩
      have hj : j < cs'.length := (List.getElem?_eq_some_iff.1 hu).1
      have := hat j (by omega)
      rw [Go.Deep.add_add, hC] at this
      rw [this, hu])
    subst hll
    refine ⟨some a, cap, l, rfl, hl, rfl, ?_, fun _ => ⟨a, rfl, fun j p hj => hq j p hj⟩⟩
    unfold maxLen at hm
    omega
end
section
variable {H : Type} {enc : TypeId × Value → H} {W : World} {spare : Nat → Bool} {held : Bool}
theorem cells_item : Tryz.prog.cellsOf 69 = 4 := by kernel_rfl
theorem read_item (n : Nat) (cs : List Value) (y : DataW H × List MemPlace) (hl : cs.length = Tryz.prog.cellsOf 69) (h : DataW.trod enc Tryz.prog W 0 spare held n 69 cs = some y) : ∃ x, k69.K W x cs := by
  rw [cells_item] at hl
  obtain ⟨y0, y1, y2, y3, m, _, _, h0, h1, h2, h3⟩ := Go.Joins.trod_struct4 Tryz.underlying69 h
  match cs, hl with
  | [c0, c1, c2, c3], _ =>
    rw [show Tryz.prog.cellsOf 4 = 1 by kernel_rfl] at h0
    rw [show Tryz.prog.cellsOf 3 = 1 by kernel_rfl] at h1 h2 h3
    obtain ⟨b, hb, _⟩ := DataW.trod_bool Tryz.underlying4 h0
    obtain ⟨i1, e1, _⟩ := DataW.trod_int Tryz.underlying3 h1
    obtain ⟨i2, e2, _⟩ := DataW.trod_int Tryz.underlying3 h2
    obtain ⟨i3, e3, _⟩ := DataW.trod_int Tryz.underlying3 h3
    obtain rfl : c0 = .bool b := by simpa using hb
    obtain rfl : c1 = .int .i64 i1 := by simpa using e1
    obtain rfl : c2 = .int .i64 i2 := by simpa using e2
    obtain rfl : c3 = .int .i64 i3 := by simpa using e3
    exact ⟨⟨b, i1, i2, i3⟩, k69_mk W ⟨b, i1, i2, i3⟩⟩
theorem read_items (n : Nat) (cs : List Value) (y : DataW H × List MemPlace) (hl : cs.length = Tryz.prog.cellsOf 68) (h : DataW.trod enc Tryz.prog W 0 spare held n 68 cs = some y) : ∃ x, (Kd.slice 69 k69).K W x cs := by
  rw [show Tryz.prog.cellsOf 68 = 1 by kernel_rfl] at hl
  match cs, hl with
  | [c], _ =>
    obtain ⟨A, cap, l, rfl, hlc, hC⟩ := C_of_trod k69 Tryz.underlying68 cells_item read_item h
    exact ⟨l, A, cap, rfl, hlc, hC⟩
theorem read_fields {n : Nat} {va : Value} {y : DataW H × List MemPlace} (h : DataW.trod enc Tryz.prog W 0 spare held n 22 [va] = some y) :
    ∃ (A : Option Addr) (c : Nat) (l : List (List S69)), va = .slice A l.length c ∧ l.length ≤ c ∧ Kd.C (Kd.slice 69 k69) W A l.length l :=
  C_of_trod (Kd.slice 69 k69) Tryz.underlying22 (by kernel_rfl) read_items h
theorem read_expr {v : Value} {d : DataW H} {p : List MemPlace} {r : Reach} {b0 : Nat} (hv : Value.okWide Tryz.prog W r b0 24 v) (h : DataW.Trod enc Tryz.prog W 0 spare held 24 v d p) :
    ∃ (A : Option Addr) (c : Nat) (l : List (List S69)) (b : Bool), v = .agg #[.slice A l.length c, .bool b] ∧ l.length ≤ c ∧ Kd.C (Kd.slice 69 k69) W A l.length l := by
  obtain ⟨cs, rfl, hsz⟩ := okWide_struct Tryz.underlying24 hv
  obtain ⟨cs⟩ := cs
  obtain ⟨fuel, hf⟩ := h
  have hl : cs.length = 2 := hsz.trans (by kernel_rfl)
  obtain ⟨y0, y1, m, _, _, h0, h1⟩ := trod_struct2 Tryz.underlying24 hf
  match cs, hl with
  | [c0, c1], _ =>
    rw [show Tryz.prog.cellsOf 22 = 1 by kernel_rfl] at h0
    rw [show Tryz.prog.cellsOf 4 = 1 by kernel_rfl] at h1
    obtain ⟨A, cap, l, e, hlc, hC⟩ := read_fields (va := c0) (by simpa [Value.cells] using h0)
    obtain ⟨b, hb, _⟩ := DataW.trod_bool Tryz.underlying4 h1
    obtain rfl : c1 = .bool b := by simpa [Value.cells] using hb
    subst e
    exact ⟨A, cap, l, b, rfl, hlc, hC⟩
end
end Go.Proofs.YtemgofomhjabpaaGreatDoor.Core
namespace Go.Proofs.YtemgofomhjabpaaGreatDoor.Core
open Go.RowKit Go.Proofs.YtemgofomhjabpaaGreatDoorW.PrintWords Go.ChangeShapes Go.WideShapes Go.Deep
set_option maxRecDepth 100000
section
variable {H : Type} {enc : TypeId × Value → H} {P : Program} {w : World} {base : Nat} {spare : Nat → Bool} {held : Bool}
theorem list6 {α : Type} {l : List α} (h : l.length = 6) : ∃ c0 c1 c2 c3 c4 c5, l = [c0, c1, c2, c3, c4, c5] := by
  match l, h with
  | [c0, c1, c2, c3, c4, c5], _ => exact ⟨c0, c1, c2, c3, c4, c5, rfl⟩
theorem trod_struct6 {t : TypeId} {f0 f1 f2 f3 f4 f5 : Field} {fuel : Nat} {cs : List Value} {x : DataW H × List MemPlace} (ht : P.underlying t = some (.struct #[f0, f1, f2, f3, f4, f5])) (h : DataW.trod enc P w base spare held fuel t cs = some x) :
    ∃ y0 y1 y2 y3 y4 y5 n, DataW.trod enc P w base spare held n f0.type ((cs.drop f0.offset).take (P.cellsOf f0.type)) = some y0 ∧ DataW.trod enc P w base spare held n f1.type ((cs.drop f1.offset).take (P.cellsOf f1.type)) = some y1 ∧ DataW.trod enc P w base spare held n f2.type ((cs.drop f2.offset).take (P.cellsOf f2.type)) = some y2 ∧
      DataW.trod enc P w base spare held n f3.type ((cs.drop f3.offset).take (P.cellsOf f3.type)) = some y3 ∧ DataW.trod enc P w base spare held n f4.type ((cs.drop f4.offset).take (P.cellsOf f4.type)) = some y4 ∧ DataW.trod enc P w base spare held n f5.type ((cs.drop f5.offset).take (P.cellsOf f5.type)) = some y5 := by
  obtain ⟨xs, n, _, rfl, hl, hlen, hf⟩ := DataW.trod_struct ht h
  obtain ⟨y0, y1, y2, y3, y4, y5, rfl⟩ := list6 (show xs.length = 6 from hlen)
  exact ⟨y0, y1, y2, y3, y4, y5, n, by simpa using hf 0 f0 rfl, by simpa using hf 1 f1 rfl, by simpa using hf 2 f2 rfl, by simpa using hf 3 f3 rfl, by simpa using hf 4 f4 rfl, by simpa using hf 5 f5 rfl⟩
end
section
variable {H : Type} {enc : TypeId × Value → H} {W : World} {spare : Nat → Bool} {held : Bool}
theorem read_moment {v : Value} {d : DataW H} {p : List MemPlace} {r : Reach} {b0 : Nat} (hv : Value.okWide Tryz.prog W r b0 26 v) (h : DataW.Trod enc Tryz.prog W 0 spare held 26 v d p) :
    ∃ y mo d h mi s : Int, v = .agg #[.int .i64 y, .int .i64 mo, .int .i64 d, .int .i64 h, .int .i64 mi, .int .i64 s] := by
  obtain ⟨cs, rfl, hsz⟩ := okWide_struct Tryz.underlying26 hv
  obtain ⟨cs⟩ := cs
  obtain ⟨fuel, hf⟩ := h
  have hl : cs.length = 6 := hsz.trans (by kernel_rfl)
  obtain ⟨y0, y1, y2, y3, y4, y5, m, h0, h1, h2, h3, h4, h5⟩ := trod_struct6 Tryz.underlying26 hf
  obtain ⟨c0, c1, c2, c3, c4, c5, rfl⟩ := list6 hl
  rw [show Tryz.prog.cellsOf 3 = 1 by kernel_rfl] at h0 h1 h2 h3 h4 h5
  obtain ⟨i0, e0, _⟩ := DataW.trod_int Tryz.underlying3 h0
  obtain ⟨i1, e1, _⟩ := DataW.trod_int Tryz.underlying3 h1
  obtain ⟨i2, e2, _⟩ := DataW.trod_int Tryz.underlying3 h2
  obtain ⟨i3, e3, _⟩ := DataW.trod_int Tryz.underlying3 h3
  obtain ⟨i4, e4, _⟩ := DataW.trod_int Tryz.underlying3 h4
  obtain ⟨i5, e5, _⟩ := DataW.trod_int Tryz.underlying3 h5
  obtain rfl : c0 = .int .i64 i0 := by simpa [Value.cells] using e0
  obtain rfl : c1 = .int .i64 i1 := by simpa [Value.cells] using e1
  obtain rfl : c2 = .int .i64 i2 := by simpa [Value.cells] using e2
  obtain rfl : c3 = .int .i64 i3 := by simpa [Value.cells] using e3
  obtain rfl : c4 = .int .i64 i4 := by simpa [Value.cells] using e4
  obtain rfl : c5 = .int .i64 i5 := by simpa [Value.cells] using e5
  exact ⟨i0, i1, i2, i3, i4, i5, rfl⟩
end
end Go.Proofs.YtemgofomhjabpaaGreatDoor.Core
namespace Go.Proofs.YtemgofomhjabpaaGreatDoor.FnQuestionRow
open Go.ChangeShapes Go.WideShapes Go.ChangeAt Go.RowKit Go.Proofs.YtemgofomhjabpaaGreatDoorW.PrintWords Go.Proofs.YtemgofomhjabpaaGreatDoor.Core
theorem own : ownKnob Tryz.prog.godebug = none := by kernel_rfl
theorem laidOut : laidOutB Tryz.prog = true := by kernel_rfl
set_option maxRecDepth 100000 in
theorem lifted (os : Os) (started : os.Started) (H : Type) (enc : TypeId × Value → H) :
    ReturnsInHanded {} Tryz.checked os 4 .any (fun w args => (Rows.fnQuestionSpec.pre enc Tryz.prog Tryz.f4 Rows.fnQuestionRow.domain false w args ∧ laidMetH Tryz.prog Rows.fnQuestionRow.laid w) ∧ sizedMet enc Tryz.prog Tryz.f4 (OpenSpec.ofChange Rows.fnQuestionSpec) false w args)
      (Rows.fnQuestionSpec.post enc Tryz.prog Tryz.f4 false true false false) := by
  refine returnsInHanded_of_change_and (C := Tryz.checked) (X := fun w _ => laidMetH Tryz.prog Rows.fnQuestionRow.laid w) (fun _ _ _ hh h => h.of_heap hh) own started (by kernel_rfl) Tryz.func4
    (ChangeSpec.witness_shaped (enc := enc) (C := Tryz.checked) (os := os) (X := fun w _ => laidMetH Tryz.prog Rows.fnQuestionRow.laid w) false (World.laidAll Tryz.prog os Rows.fnQuestionRow.laid) #[.agg #[.slice none 0 0, .bool false], .agg #[.int .i64 0, .int .i64 0, .int .i64 0, .int .i64 0, .int .i64 0, .int .i64 0]] 8 (World.laidAll_os _ _ _)
      (World.shaped_of_ZipB (by kernel_rfl) (by kernel_rfl)) (by kernel_rfl) (by kernel_rfl) (by kernel_rfl)
      (by rw [MakeChecks.laidMetH_plain _ _ _ (by kernel_rfl)]; exact laidMet_laidAll _ (by kernel_rfl) (by kernel_rfl))) ?_
  intro W base args ds gs before hval0 hW _ _ _ _
  have hval : ∀ (j : Nat) t v, Tryz.f4.params[j]? = some t → args[j]? = some v → Value.okWide Tryz.prog W .any base t v := hval0
  have hW' := hW
  obtain ⟨p, q, hA0, hV, rfl, _, _⟩ := hW
  have hA : DataW.TrodAll enc Tryz.prog W 0 (fun _ => true) true Tryz.f4.params.toList args.toList ds p := hA0
  rw [Tryz.params4] at hA hval
  obtain ⟨v0, vs0, d0, ds0, p0, q0, hargs, rfl, rfl, h0, r0⟩ := trodAll_cons hA
  obtain ⟨v1, vs1, d1, ds1, p1, q1, rfl, rfl, rfl, h1, r1⟩ := trodAll_cons r0
  obtain ⟨rfl, rfl, rfl⟩ := trodAll_nil r1
  obtain rfl : args = #[v0, v1] := by cases args; simp_all
  obtain ⟨rfl, rfl⟩ := trodVars_none hV
  obtain ⟨A0, c0, l0, b0, rfl, hl0, hC0⟩ := read_expr (hval 0 24 v0 rfl rfl) h0
  obtain ⟨y1, mo1, d'1, hh1, mi1, s1, rfl⟩ := read_moment (hval 1 26 v1 rfl rfl) h1
  have lt0 : ∀ x ∈ p0, x.block < W.heap.size := fun x hx => hW'.lt x (by simp [hx])
  have lt1 : ∀ x ∈ p1, x.block < W.heap.size := fun x hx => hW'.lt x (by simp [hx])
  clear hA0 hval0
  obtain ⟨k, hk⟩ := fnQuestion_pure l0 b0 y1 mo1 d'1 hh1 mi1 s1
  refine (laws_FnQuestion.calls k A0 c0 l0 b0 y1 mo1 d'1 hh1 mi1 s1 true W hC0 hl0  hk).mono fun e W' ⟨he, bel⟩ => ?_
  subst he
  exact ⟨_, rfl, _, _, _, [], _, [], hW', trodAll_mk1 (shut_bool Tryz.underlying4 _), (trodAll_cons_mk (Below.trod laidOut (by kernel_rfl) (of_decide_eq_true (by kernel_rfl)) h0 bel lt0) (trodAll_cons_mk (Below.trod laidOut (by kernel_rfl) (of_decide_eq_true (by kernel_rfl)) h1 bel lt1) trodAll_mk0)), rfl, bel.frame _, fun h => by cases h⟩
theorem said : Rows.FnQuestionSaid :=
  OpenClaim.holds_of_wide 4 Tryz.f4 rfl rfl rfl rfl rfl rfl rfl ⟨rfl, rfl, rfl, rfl, rfl⟩ rfl rfl rfl rfl rfl (by kernel_rfl) Tryz.func4 (by kernel_rfl)
    (of_decide_eq_true (by kernel_rfl)) (by unfold Func.isWrapper; first | (rw [if_pos (by decide +kernel)]; kernel_rfl) | (rw [if_neg (by decide +kernel)]; exact ⟨rfl, rfl⟩))
    (fun os started H enc _ => lifted os started H enc)
theorem plain (f : FuncId) (fn : Func) (hf : Tryz.pinned.checked.prog.funcNamed Rows.fnQuestionRow.func = some f) (hfn : Tryz.pinned.checked.prog.funcs[f]? = some fn) :
    true = Tryz.pinned.checked.prog.looks [] ∧ ∀ (j : Nat) t, fn.params[j]? = some t → Tryz.pinned.checked.prog.wantsStandIn t = false := by
  obtain rfl : f = 4 := Option.some.inj ((show Tryz.prog.funcNamed Rows.fnQuestionRow.func = some 4 by kernel_rfl).symm.trans hf) |>.symm
  obtain rfl : fn = Tryz.f4 := (Option.some.inj (Tryz.func4.symm.trans hfn)).symm
  refine ⟨by kernel_rfl, fun j t ht => ?_⟩
  rw [Tryz.params4] at ht
  have hm : t ∈ [24, 26] := by simpa using Array.mem_of_getElem? ht
  have hall : ([24, 26].all fun u => !Tryz.prog.wantsStandIn u) = true := by kernel_rfl
  exact (show Tryz.prog.wantsStandIn t = false by simpa using List.all_eq_true.1 hall t hm)
theorem card : Rows.FnQuestionCardSaid :=
  Claim7.holds_tied_plain_at .later [] _ _ _ _ said (fun _ h => by cases h) (by kernel_rfl) (fun _ h => by cases h) fnQuestion_row_tie rfl ⟨rfl, rfl⟩ (by kernel_rfl) rfl plain (by kernel_rfl)
#print axioms card
end Go.Proofs.YtemgofomhjabpaaGreatDoor.FnQuestionRow
namespace Go.Proofs.YtemgofomhjabpaaGreatDoor
theorem fnQuestion_holds : Rows.FnQuestionCardSaid := FnQuestionRow.card
end Go.Proofs.YtemgofomhjabpaaGreatDoor
