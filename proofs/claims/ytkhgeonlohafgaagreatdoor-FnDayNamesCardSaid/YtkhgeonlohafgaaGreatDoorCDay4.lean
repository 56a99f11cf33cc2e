/- Contracts and plain lemmas of this seat (part 4), merged by wip/merge2.py; what is proved stands in the claim's last text. -/
import Derived.Test.YtkhgeonlohafgaaGreatDoorCDay1
import Derived.Test.YtkhgeonlohafgaaGreatDoorCDay2
import Derived.Test.YtkhgeonlohafgaaGreatDoorCDay3
import Derived.Deep.QuietTactic
import Derived.BigQuiet
import Derived.Shelf.Strings.Builder1
import Derived.Shelf.Strings.Builder2
import Derived.Shelf.Strings.OnBuilder
import Derived.Shelf.Small.Utf8
import Derived.Shelf.Strconv.Atoi
import Derived.Shelf.Strconv.AtoiErrFast
import Derived.Shelf.Strconv.ParseIntEmpty
import Derived.Shelf.Strconv.AtoiFail
import Derived.Shelf.LaysM
import Derived.Shelf.Strconv.Clone
import Derived.Shelf.Strconv.SyntaxError
import Derived.Shelf.LaysC
import Derived.Shelf.Strconv.ToError
import Derived.Shelf.Strconv.AtoiErr
import Derived.Shelf.Unicode.Latin
import Derived.Shelf.Unicode.DecodeSlow
import Derived.Shelf.Unicode.CaseLookup
import Derived.Shelf.Unicode.CaseConvert
import Derived.Shelf.Unicode.CaseTo
import Derived.Shelf.Unicode.CaseLaid
import Derived.Test.YtkhgeonlohafgaaGreatDoorProg
namespace Go.Proofs.YtkhgeonlohafgaaGreatDoor.Core
open Go.RowKit Go.Proofs.YtkhgeonlohafgaaGreatDoorW.PrintWords
section
variable (x D C cy a j y mo d : Int) (w : World) (hx0 : 62700000000 ≤ x) (hx1 : x ≤ 66100000000)
include hx0 hx1
theorem year_w (h1 : Aside0 (gotime_absSeconds_days.f (x + 9223371966606163200) = some D)) (h2 : Aside0 (gotime_absDays_split.f D = some (C, cy, a))) (h3 : Aside0 (gotime_absYday_janFeb.f a = some j)) (h4 : Aside0 (gotime_absCentury_year.f C cy j = some y)) :
    Calls Tryz.prog 61 #[.agg #[.int .u64 0, .int .i64 x, .pointer none]] w fun e w' => e = .returned (.int .i64 y) ∧ Below w.heap.size w w' := by
  go_enter Tryz.func61, Tryz.ntmps61
  go_wp2_with (first | (go_at_call 89; refine (absSec_any x _ hx0 hx1).mono ?_; rintro e w1 ⟨rfl, hb⟩) | (go_at_call 90; refine (gotime_absSeconds_days.calls _ D _ h1.out).mono ?_; rintro e w2 ⟨rfl, ⟨n2, rfl⟩⟩) | (go_at_call 91; refine (gotime_absDays_split.calls _ C cy a _ h2.out).mono ?_; rintro e w3 ⟨rfl, ⟨n3, rfl⟩⟩) | (go_at_call 92; refine (gotime_absYday_janFeb.calls _ j _ h3.out).mono ?_; rintro e w4 ⟨rfl, ⟨n4, rfl⟩⟩) | (go_at_call 93; refine (gotime_absCentury_year.calls _ _ _ y _ h4.out).mono ?_; rintro e w5 ⟨rfl, ⟨n5, rfl⟩⟩))
  go_ret
  exact ⟨rfl, by repeat (first | exact hb | exact below_then (below_alloc (Below.refl _ _) _) (by simp) hb | apply pw_below_drewN)⟩
theorem month_w (h1 : Aside0 (gotime_absSeconds_days.f (x + 9223371966606163200) = some D)) (h2 : Aside0 (gotime_absDays_split.f D = some (C, cy, a))) (h3 : Aside0 (gotime_absYday_split.f a = some (j, d))) (h5 : Aside0 (gotime_absYday_janFeb.f a = some y)) (h4 : Aside0 (gotime_absMonth_month.f j y = some mo)) :
    Calls Tryz.prog 62 #[.agg #[.int .u64 0, .int .i64 x, .pointer none]] w fun e w' => e = .returned (.int .i64 mo) ∧ Below w.heap.size w w' := by
  go_enter Tryz.func62, Tryz.ntmps62
  go_wp2_with (first | (go_at_call 89; refine (absSec_any x _ hx0 hx1).mono ?_; rintro e w1 ⟨rfl, hb⟩) | (go_at_call 90; refine (gotime_absSeconds_days.calls _ D _ h1.out).mono ?_; rintro e w2 ⟨rfl, ⟨n2, rfl⟩⟩) | (go_at_call 91; refine (gotime_absDays_split.calls _ C cy a _ h2.out).mono ?_; rintro e w3 ⟨rfl, ⟨n3, rfl⟩⟩) | (go_at_call 94; refine (gotime_absYday_split.calls _ j d _ h3.out).mono ?_; rintro e w4 ⟨rfl, ⟨n4, rfl⟩⟩) | (go_at_call 92; refine (gotime_absYday_janFeb.calls _ y _ h5.out).mono ?_; rintro e w5 ⟨rfl, ⟨n5, rfl⟩⟩) | (go_at_call 95; refine (gotime_absMonth_month.calls _ _ mo _ h4.out).mono ?_; rintro e w6 ⟨rfl, ⟨n6, rfl⟩⟩))
  go_ret
  exact ⟨rfl, by repeat (first | exact hb | exact below_then (below_alloc (Below.refl _ _) _) (by simp) hb | apply pw_below_drewN)⟩
theorem day_w (h1 : Aside0 (gotime_absSeconds_days.f (x + 9223371966606163200) = some D)) (h2 : Aside0 (gotime_absDays_split.f D = some (C, cy, a))) (h3 : Aside0 (gotime_absYday_split.f a = some (j, d))) :
    Calls Tryz.prog 65 #[.agg #[.int .u64 0, .int .i64 x, .pointer none]] w fun e w' => e = .returned (.int .i64 d) ∧ Below w.heap.size w w' := by
  go_enter Tryz.func65, Tryz.ntmps65
  go_wp2_with (first | (go_at_call 89; refine (absSec_any x _ hx0 hx1).mono ?_; rintro e w1 ⟨rfl, hb⟩) | (go_at_call 90; refine (gotime_absSeconds_days.calls _ D _ h1.out).mono ?_; rintro e w2 ⟨rfl, ⟨n2, rfl⟩⟩) | (go_at_call 91; refine (gotime_absDays_split.calls _ C cy a _ h2.out).mono ?_; rintro e w3 ⟨rfl, ⟨n3, rfl⟩⟩) | (go_at_call 94; refine (gotime_absYday_split.calls _ j d _ h3.out).mono ?_; rintro e w4 ⟨rfl, ⟨n4, rfl⟩⟩))
  go_ret
  exact ⟨rfl, by repeat (first | exact hb | exact below_then (below_alloc (Below.refl _ _) _) (by simp) hb | apply pw_below_drewN)⟩
theorem weekday_w (h1 : Aside0 (gotime_absSeconds_days.f (x + 9223371966606163200) = some D)) (h2 : Aside0 (gotime_absDays_weekday.f D = some d)) :
    Calls Tryz.prog 84 #[.agg #[.int .u64 0, .int .i64 x, .pointer none]] w fun e w' => e = .returned (.int .i64 d) ∧ Below w.heap.size w w' := by
  go_enter Tryz.func84, Tryz.ntmps84
  go_wp2_with (first | (go_at_call 89; refine (absSec_any x _ hx0 hx1).mono ?_; rintro e w1 ⟨rfl, hb⟩) | (go_at_call 90; refine (gotime_absSeconds_days.calls _ D _ h1.out).mono ?_; rintro e w2 ⟨rfl, ⟨n2, rfl⟩⟩) | (go_at_call 111; refine (gotime_absDays_weekday.calls _ d _ h2.out).mono ?_; rintro e w3 ⟨rfl, ⟨n3, rfl⟩⟩))
  go_ret
  exact ⟨rfl, by repeat (first | exact hb | exact below_then (below_alloc (Below.refl _ _) _) (by simp) hb | apply pw_below_drewN)⟩
theorem hour_w : Calls Tryz.prog 83 #[.agg #[.int .u64 0, .int .i64 x, .pointer none]] w fun e w' => e = .returned (.int .i64 ((x + 9223371966606163200) % 86400 / 3600)) ∧ Below w.heap.size w w' := by
  go_enter Tryz.func83, Tryz.ntmps83
  go_wp2_with (go_at_call 89; refine (absSec_any x _ hx0 hx1).mono ?_; rintro e w1 ⟨rfl, hb⟩)
  go_ret
  exact ⟨ret_i64 (by first | rfl | omega), by repeat (first | exact hb | exact below_then (below_alloc (Below.refl _ _) _) (by simp) hb | apply pw_below_drewN)⟩
theorem minute_w : Calls Tryz.prog 82 #[.agg #[.int .u64 0, .int .i64 x, .pointer none]] w fun e w' => e = .returned (.int .i64 ((x + 9223371966606163200) % 3600 / 60)) ∧ Below w.heap.size w w' := by
  go_enter Tryz.func82, Tryz.ntmps82
  go_wp2_with (go_at_call 89; refine (absSec_any x _ hx0 hx1).mono ?_; rintro e w1 ⟨rfl, hb⟩)
  go_ret
  exact ⟨ret_i64 (by first | rfl | omega), by repeat (first | exact hb | exact below_then (below_alloc (Below.refl _ _) _) (by simp) hb | apply pw_below_drewN)⟩
theorem second_w : Calls Tryz.prog 81 #[.agg #[.int .u64 0, .int .i64 x, .pointer none]] w fun e w' => e = .returned (.int .i64 ((x + 9223371966606163200) % 60)) ∧ Below w.heap.size w w' := by
  go_enter Tryz.func81, Tryz.ntmps81
  go_wp2_with (go_at_call 89; refine (absSec_any x _ hx0 hx1).mono ?_; rintro e w1 ⟨rfl, hb⟩)
  go_ret
  exact ⟨ret_i64 (by first | rfl | omega), by repeat (first | exact hb | exact below_then (below_alloc (Below.refl _ _) _) (by simp) hb | apply pw_below_drewN)⟩
end
theorem norm_in (hi lo base : Int) (w : World) (h0 : 0 ≤ lo) (h1 : lo < base) :
    Calls Tryz.prog 68 #[.int .i64 hi, .int .i64 lo, .int .i64 base] w fun e w' => e = .returned (.tuple #[.int .i64 hi, .int .i64 lo]) ∧ w = w' := by
  have e1 : decide (lo < 0) = false := decide_eq_false (by omega)
  have e2 : decide (base ≤ lo) = false := decide_eq_false (by omega)
  go_enter Tryz.func68, Tryz.ntmps68
  go_wp2
  go_ret2
  exact ⟨rfl, rfl⟩
end Go.Proofs.YtkhgeonlohafgaaGreatDoor.Core
namespace Go.Proofs.YtkhgeonlohafgaaGreatDoor.Core
open Go.RowKit Go.Proofs.YtkhgeonlohafgaaGreatDoorW.PrintWords
theorem dta (y mo d D a b c : Int) (w : World) (hD : Aside0 (gotime_dateToAbsDays.f y mo d = some D)) (ha : a = y) (hb : b = mo) (hc : c = d) :
    Calls Tryz.prog 69 #[.int .i64 a, .int .i64 b, .int .i64 c] w fun e w' => e = .returned (.int .u64 D) ∧ Drawn0 w w' := by
  subst ha; subst hb; subst hc
  exact gotime_dateToAbsDays.calls _ _ _ D _ hD.out
theorem setLoc_after (g b : Nat) (x : Int) (w : World) (hg : w.heap[g]? = some (.cells #[.int .u64 0, .int .i64 x, .pointer none] 63)) (hb : w.cell? ⟨b, 0, none⟩ = some (.bool true)) :
    Calls Tryz.prog 72 #[.pointer (some ⟨g, 0, none⟩), .pointer (some ⟨b, 0, none⟩)] w fun e w' => e = .returned (.tuple #[]) ∧ w.setCell ⟨g, 2, none⟩ (.pointer none) = w' := setLoc_any g b x w hg hb
theorem ret_time {a b : Int} (h : a = b) : Ending.returned (.agg #[.int .u64 0, .int .i64 a, .pointer none]) = .returned (.agg #[.int .u64 0, .int .i64 b, .pointer none]) := by rw [h]
theorem cell_after {w w1 : World} {a : Addr} {v : Value} (h : Below w.heap.size w w1) (hc : w.cell? a = some v) : w1.cell? a = some v := pw_cell_below h hc
theorem after_tm {w w4 : World} {n : Nat} (h : Below ((w.alloc (.cells #[.int .u64 0, .int .i64 0, .pointer none] 63)).drewN n).heap.size ((w.alloc (.cells #[.int .u64 0, .int .i64 0, .pointer none] 63)).drewN n) w4) :
    w4.heap[w.heap.size]? = some (.cells #[.int .u64 0, .int .i64 0, .pointer none] 63) ∧ w.heap.size < w4.heap.size ∧ Below w.heap.size w w4 := by
  have hs : w.heap.size < ((w.alloc (.cells #[.int .u64 0, .int .i64 0, .pointer none] 63)).drewN n).heap.size := by
    show w.heap.size < (w.alloc _).heap.size; simp
  have hb : Below w.heap.size w ((w.alloc (.cells #[.int .u64 0, .int .i64 0, .pointer none] 63)).drewN n) := below_drewN ((Below.refl _ _).alloc (Nat.le_refl _) _) n
  exact ⟨(h.block w.heap.size hs).trans (heap_alloc_new w _), Nat.lt_of_lt_of_le hs h.size, hb.trans (h.mono (Nat.le_of_lt hs))⟩
theorem set_same {w : World} {a : Addr} {u v : Value} (h : w.cell? a = some u) : (w.setCell a v).cell? a = some v := World.cell?_setCell_same _ _ _ h
theorem set_other {w : World} {a b : Addr} {v : Value} (h : a ≠ b) : (w.setCell a v).cell? b = w.cell? b := World.cell?_setCell_other _ _ _ _ h
theorem res3 {w4 : World} {g : Nat} {x0 x1 x2 a b c : Value} {t : TypeId} (o : Obj) (hA : w4.heap[g]? = some (.cells #[x0, x1, x2] t)) :
    ((((w4.setCell ⟨g, 0, none⟩ a).setCell ⟨g, 1, none⟩ b).setCell ⟨g, 2, none⟩ c).alloc o).cell? ⟨g, 0, none⟩ = some a ∧
    ((((w4.setCell ⟨g, 0, none⟩ a).setCell ⟨g, 1, none⟩ b).setCell ⟨g, 2, none⟩ c).alloc o).cell? ⟨g, 1, none⟩ = some b ∧
    ((((w4.setCell ⟨g, 0, none⟩ a).setCell ⟨g, 1, none⟩ b).setCell ⟨g, 2, none⟩ c).alloc o).cell? ⟨g, 2, none⟩ = some c := by
  have h0 : w4.cell? ⟨g, 0, none⟩ = some x0 := by simp [World.cell?, hA]
  have h1 : w4.cell? ⟨g, 1, none⟩ = some x1 := by simp [World.cell?, hA]
  have h2 : w4.cell? ⟨g, 2, none⟩ = some x2 := by simp [World.cell?, hA]
  have k0 : (w4.setCell ⟨g, 0, none⟩ a).cell? ⟨g, 0, none⟩ = some a := set_same h0
  have k1 : ((w4.setCell ⟨g, 0, none⟩ a).setCell ⟨g, 1, none⟩ b).cell? ⟨g, 0, none⟩ = some a := (set_other (by simp)).trans k0
  have k2 : ((w4.setCell ⟨g, 0, none⟩ a).setCell ⟨g, 1, none⟩ b).cell? ⟨g, 1, none⟩ = some b := set_same ((set_other (by simp)).trans h1)
  have j0 := (set_other (v := c) (b := ⟨g, 0, none⟩) (a := ⟨g, 2, none⟩) (by simp)).trans k1
  have j1 := (set_other (v := c) (b := ⟨g, 1, none⟩) (a := ⟨g, 2, none⟩) (by simp)).trans k2
  have j2 : (((w4.setCell ⟨g, 0, none⟩ a).setCell ⟨g, 1, none⟩ b).setCell ⟨g, 2, none⟩ c).cell? ⟨g, 2, none⟩ = some c := set_same ((set_other (by simp)).trans ((set_other (by simp)).trans h2))
  exact ⟨cell_after ((Below.refl _ _).alloc (Nat.le_refl _) o) j0, cell_after ((Below.refl _ _).alloc (Nat.le_refl _) o) j1, cell_after ((Below.refl _ _).alloc (Nat.le_refl _) o) j2⟩
set_option maxRecDepth 100000 in
theorem date_w (y mo d h mi s D : Int) (b : Nat) (w : World) (hm0 : 1 ≤ mo) (hm1 : mo ≤ 12) (hh0 : 0 ≤ h) (hh1 : h ≤ 23) (hi0 : 0 ≤ mi) (hi1 : mi ≤ 59) (hs0 : 0 ≤ s) (hs1 : s ≤ 59)
    (hD : Aside0 (gotime_dateToAbsDays.f y mo d = some D)) (hD0 : 106751991080340 ≤ D) (hD1 : D ≤ 106751991118400) (hb0 : w.cell? ⟨b, 0, none⟩ = some (.bool true)) (hb2 : w.cell? ⟨b, 2, none⟩ = some (.slice none 0 0)) :
    Calls Tryz.prog 45 #[.int .i64 y, .int .i64 mo, .int .i64 d, .int .i64 h, .int .i64 mi, .int .i64 s, .int .i64 0, .pointer (some ⟨b, 0, none⟩)] w
      fun e w' => e = .returned (.agg #[.int .u64 0, .int .i64 (D * 86400 + (h * 3600 + mi * 60 + s) + -9223371966606163200), .pointer none]) ∧ Below w.heap.size w w' := by
  have hk : ∀ o n, ((w.alloc o).drewN n).cell? ⟨b, 2, none⟩ = some (.slice none 0 0) := fun o n => cell_after (below_drewN ((Below.refl _ _).alloc (Nat.le_refl _) o) n) hb2
  have hbB := World.block_lt_of_cell? w ⟨b, 0, none⟩ hb0
  go_enter Tryz.func45, Tryz.ntmps45
  go_wp2_with (first | (go_at_call 68; refine (norm_in _ _ _ _ (by omega) (by omega)).mono ?_; rintro e w' ⟨rfl, rfl⟩) | (go_at_call 69; refine (dta y mo d D _ _ _ _ hD (by omega) (by omega) (by omega)).mono ?_; rintro e w2 ⟨rfl, ⟨n2, rfl⟩⟩) | (go_at_call 70; refine (lookup_any b _ _ (hk _ _)).mono ?_; rintro e w3 ⟨rfl, rfl⟩) | (go_at_call 71; refine (unixTime_any _ _ (by omega) (by omega)).mono ?_; rintro e w4 ⟨rfl, hbl⟩; obtain ⟨hA, hsz, hbw⟩ := after_tm hbl; have hc0 := cell_after hbw hb0; have hcA0 : w4.cell? ⟨w.heap.size, 0, none⟩ = some (.int .u64 0) := (by simp [World.cell?, hA]); have hcA1 : w4.cell? ⟨w.heap.size, 1, none⟩ = some (.int .i64 0) := (by simp [World.cell?, hA]); have hcA2 : w4.cell? ⟨w.heap.size, 2, none⟩ = some (.pointer none) := (by simp [World.cell?, hA]); have hfA0 : w4.frozen? ⟨w.heap.size, 0, none⟩ = false := (by simp [World.frozen?, hA]); have hfA1 : w4.frozen? ⟨w.heap.size, 1, none⟩ = false := (by simp [World.frozen?, hA]); have hfA2 : w4.frozen? ⟨w.heap.size, 2, none⟩ = false := (by simp [World.frozen?, hA]); have hne : w.heap.size ≠ w4.heap.size := Nat.ne_of_lt hsz; have hne' : w4.heap.size ≠ w.heap.size := Nat.ne_of_gt hsz) | (go_at_call 72; refine (setLoc_after _ b _ _ (heap_alloc_new _ _) (cell_after ((Below.refl _ _).alloc (Nat.le_refl _) _) hc0)).mono ?_; rintro e w5 ⟨rfl, rfl⟩))
  obtain ⟨r0, r1, r2⟩ := res3 (a := .int .u64 0) (b := .int .i64 (D * 86400 + (h * 3600 + mi * 60 + s) + -9223372028741760000 + 62135596800)) (c := .pointer none) (.cells #[.int .u64 0, .int .i64 (D * 86400 + (h * 3600 + mi * 60 + s) + -9223372028741760000 + 62135596800), .pointer none] 63) hA
  refine bodyPost_ret (v := .agg #[.int .u64 0, .int .i64 (D * 86400 + (h * 3600 + mi * 60 + s) + -9223372028741760000 + 62135596800), .pointer none]) (by simp [results, Tryz.results45, go_sem, r0, r1, r2]) rfl ⟨ret_time (by omega), ?_⟩
  exact ((((hbw.setCell (Nat.le_refl _) _).setCell (Nat.le_refl _) _).setCell (Nat.le_refl _) _)).alloc (by simpa using Nat.le_of_lt hsz) _
end Go.Proofs.YtkhgeonlohafgaaGreatDoor.Core
namespace Go.Proofs.YtkhgeonlohafgaaGreatDoor.Core
open Go.RowKit Go.Proofs.YtkhgeonlohafgaaGreatDoorW.PrintWords
theorem tmodz (y n : Int) (h : 0 ≤ y) : Int.tmod y n = y % n := Int.tmod_eq_emod_of_nonneg h
theorem leap_some (y : Int) (h : 0 ≤ y) : spec_Leap.f y = some (leapI y) := by
  unfold spec_Leap.f leapI
  rw [tmodz y 4 h, tmodz y 100 h, tmodz y 400 h]
  by_cases h4 : y % 4 = 0
  · rw [if_pos h4]
    by_cases h1 : y % 100 = 0
    · rw [if_pos h1]; simp [h4, h1]; rfl
    · rw [if_neg h1]; simp [h4, h1]
  · rw [if_neg h4]; simp [h4]
theorem days_some (y mo : Int) (h : 0 ≤ y) (m0 : 1 ≤ mo) (m1 : mo ≤ 12) : spec_Days.f y mo = some (daysI y mo) := by
  unfold spec_Days.f daysI
  by_cases h2 : mo = 2
  · rw [if_pos h2, leap_some y h, Option.bind_some]
    cases hl : leapI y with
    | true => rw [if_pos rfl, if_pos ⟨h2, rfl⟩]
    | false => rw [if_neg (by simp), if_pos (by omega), if_pos (by omega), if_neg (by simp)]
  · rw [if_neg h2, if_pos (by omega), if_pos (by omega), if_neg (fun e => h2 e.1)]
theorem days_quiet (y mo : Int) (hd : spec_Days.f y mo = some (daysI y mo)) (w : World) (n : Nat) : Calls Tryz.prog 29 #[.int .i64 y, .int .i64 mo] (w.drewN n) fun e w'' => e = .returned (.int .i64 (daysI y mo)) ∧ ∃ m, w'' = w.drewN m := by
  refine Calls.quiet_of ((spec_Days.calls y mo (daysI y mo) _ hd).mono ?_)
  rintro e w' ⟨rfl, ⟨nd, rfl⟩⟩
  exact ⟨rfl, nd, rfl⟩
def goodM (y mo d h mi s : Int) : Bool := decide (1990 ≤ y ∧ y ≤ 2090 ∧ 1 ≤ mo ∧ mo ≤ 12 ∧ 1 ≤ d ∧ d ≤ daysI y mo ∧ 0 ≤ h ∧ h ≤ 23 ∧ 0 ≤ mi ∧ mi ≤ 59 ∧ 0 ≤ s ∧ s ≤ 59)
set_option maxRecDepth 100000 in
set_option maxHeartbeats 2000000 in
theorem mg_0 (y mo d h mi s : Int) (a0 : ¬ 1990 ≤ y) : GoodC y mo d h mi s false := by
  intro w
  replace a0 : (1990 ≤ y) = False := eq_false a0
  go_enter Tryz.func12, Tryz.ntmps12
  go_wp2
  go_quiet (fail)
  go_wp2
  go_ret
  exact ⟨rfl, by repeat (first | exact Below.refl _ _ | apply below_alloc | apply below_drew1 | apply pw_below_drewN)⟩
set_option maxRecDepth 100000 in
set_option maxHeartbeats 2000000 in
theorem mg_1 (y mo d h mi s : Int) (a0 : 1990 ≤ y) (a1 : ¬ y ≤ 2090) : GoodC y mo d h mi s false := by
  intro w
  replace a1 : (y ≤ 2090) = False := eq_false a1
  go_enter Tryz.func12, Tryz.ntmps12
  go_wp2
  go_quiet (fail)
  go_wp2
  go_ret
  exact ⟨rfl, by repeat (first | exact Below.refl _ _ | apply below_alloc | apply below_drew1 | apply pw_below_drewN)⟩
set_option maxRecDepth 100000 in
set_option maxHeartbeats 2000000 in
theorem mg_2 (y mo d h mi s : Int) (a0 : 1990 ≤ y) (a1 : y ≤ 2090) (a2 : ¬ 1 ≤ mo) : GoodC y mo d h mi s false := by
  intro w
  replace a2 : (1 ≤ mo) = False := eq_false a2
  go_enter Tryz.func12, Tryz.ntmps12
  go_wp2
  go_quiet (fail)
  go_wp2
  go_ret
  exact ⟨rfl, by repeat (first | exact Below.refl _ _ | apply below_alloc | apply below_drew1 | apply pw_below_drewN)⟩
set_option maxRecDepth 100000 in
set_option maxHeartbeats 2000000 in
theorem mg_3 (y mo d h mi s : Int) (a0 : 1990 ≤ y) (a1 : y ≤ 2090) (a2 : 1 ≤ mo) (a3 : ¬ mo ≤ 12) : GoodC y mo d h mi s false := by
  intro w
  replace a3 : (mo ≤ 12) = False := eq_false a3
  go_enter Tryz.func12, Tryz.ntmps12
  go_wp2
  go_quiet (fail)
  go_wp2
  go_ret
  exact ⟨rfl, by repeat (first | exact Below.refl _ _ | apply below_alloc | apply below_drew1 | apply pw_below_drewN)⟩
set_option maxRecDepth 100000 in
set_option maxHeartbeats 2000000 in
theorem mg_4 (y mo d h mi s : Int) (a0 : 1990 ≤ y) (a1 : y ≤ 2090) (a2 : 1 ≤ mo) (a3 : mo ≤ 12) (a4 : ¬ 1 ≤ d) : GoodC y mo d h mi s false := by
  intro w
  replace a4 : (1 ≤ d) = False := eq_false a4
  go_enter Tryz.func12, Tryz.ntmps12
  go_wp2
  go_quiet (fail)
  go_wp2
  go_ret
  exact ⟨rfl, by repeat (first | exact Below.refl _ _ | apply below_alloc | apply below_drew1 | apply pw_below_drewN)⟩
end Go.Proofs.YtkhgeonlohafgaaGreatDoor.Core
namespace Go.Proofs.YtkhgeonlohafgaaGreatDoor.Core
open Go.RowKit Go.Proofs.YtkhgeonlohafgaaGreatDoorW.PrintWords Go.Proofs.YtkhgeonlohafgaaGreatDoorW.PrintLast Go.Proofs.YtkhgeonlohafgaaGreatDoorW.PrintMore
attribute [local go_sem] max2_int min2_int max_two min_two max_three min_three max_four min_four   -- for this text's walks alone
set_option linter.unusedVariables false
set_option linter.unusedSimpArgs false
end Go.Proofs.YtkhgeonlohafgaaGreatDoor.Core
namespace Go.Proofs.YtkhgeonlohafgaaGreatDoor.Core
open Go.RowKit Go.Proofs.YtkhgeonlohafgaaGreatDoorW.PrintWords Go.Proofs.YtkhgeonlohafgaaGreatDoorW.PrintLast Go.Proofs.YtkhgeonlohafgaaGreatDoorW.PrintMore
attribute [local go_sem] max2_int min2_int max_two min_two max_three min_three max_four min_four   -- for this text's walks alone
set_option linter.unusedVariables false
set_option linter.unusedSimpArgs false
end Go.Proofs.YtkhgeonlohafgaaGreatDoor.Core
namespace Go.Proofs.YtkhgeonlohafgaaGreatDoor.Core
open Go.RowKit Go.Proofs.YtkhgeonlohafgaaGreatDoorW.PrintWords Go.Proofs.YtkhgeonlohafgaaGreatDoorW.PrintLast Go.Proofs.YtkhgeonlohafgaaGreatDoorW.PrintMore
attribute [local go_sem] max2_int min2_int max_two min_two max_three min_three max_four min_four   -- for this text's walks alone
set_option linter.unusedVariables false
set_option linter.unusedSimpArgs false
end Go.Proofs.YtkhgeonlohafgaaGreatDoor.Core
namespace Go.Proofs.YtkhgeonlohafgaaGreatDoor.Core
open Go.RowKit Go.Proofs.YtkhgeonlohafgaaGreatDoorW.PrintWords Go.Proofs.YtkhgeonlohafgaaGreatDoorW.PrintLast Go.Proofs.YtkhgeonlohafgaaGreatDoorW.PrintMore
attribute [local go_sem] max2_int min2_int max_two min_two max_three min_three max_four min_four   -- for this text's walks alone
set_option linter.unusedVariables false
set_option linter.unusedSimpArgs false
def gronx_zzIndex.l0 : Nat → ByteArray → ByteArray → Int → Option (Int)
  | 0, _, _, _ => none
  | k + 1, x0, x1, x5 => if (wrap64 (x5 + (x1.size : Int))) ≤ (x0.size : Int) then (if 0 ≤ x5 then (if x5 ≤ (wrap64 (x5 + (x1.size : Int))) then (if (x0.extract (x5 : Int).toNat ((wrap64 (x5 + (x1.size : Int))) : Int).toNat).toList = x1.toList then (some x5) else (gronx_zzIndex.l0 k x0 x1 (wrap64 (x5 + 1)))) else (none)) else (none)) else (some (-1))
def gronx_zzIndex.f (k : Nat) (a0 : ByteArray) (a1 : ByteArray) : Option (Int) := gronx_zzIndex.l0 k a0 a1 0
theorem gronx_zzIndex.mono_l : ∀ k, (∀ y0 y1 y2, LeO (gronx_zzIndex.l0 k y0 y1 y2) (gronx_zzIndex.l0 (k + 1) y0 y1 y2))
  | 0 => fun _ _ _ r h => by simp [gronx_zzIndex.l0] at h
  | k + 1 => by
    have ih0 := gronx_zzIndex.mono_l k
    · intro y0 y1 y2
      unfold gronx_zzIndex.l0
      repeat' first
      | (with_reducible exact ih0 _ _ _)
      | (with_reducible exact LeO.refl _)
      | (with_reducible exact LeO.none _)
      | (with_reducible refine LeO.ite ?_ ?_)
      | (with_reducible refine LeO.bind ?_ (fun _ => ?_))
      | exact ih0 _ _ _
      | exact LeO.none _
      | refine LeO.ite ?_ ?_
      | refine LeO.bind ?_ (fun _ => ?_)
theorem gronx_zzIndex.mono : ∀ a0 a1 k, LeO (gronx_zzIndex.f k a0 a1) (gronx_zzIndex.f (k + 1) a0 a1) := by
  intro a0 a1 k
  have ih0 := gronx_zzIndex.mono_l k
  unfold gronx_zzIndex.f
  repeat' first
      | (with_reducible exact ih0 _ _ _)
      | (with_reducible exact LeO.refl _)
      | (with_reducible exact LeO.none _)
      | (with_reducible refine LeO.ite ?_ ?_)
      | (with_reducible refine LeO.bind ?_ (fun _ => ?_))
      | exact ih0 _ _ _
      | exact LeO.none _
      | refine LeO.ite ?_ ?_
      | refine LeO.bind ?_ (fun _ => ?_)
set_option maxHeartbeats 8000000 in
set_option maxRecDepth 100000 in
theorem gronx_zzIndex.calls (k : Nat) (a0 : ByteArray) (a1 : ByteArray) (r : Int) (w : World) (h : gronx_zzIndex.f k a0 a1 = some r) :
    Calls Tryz.prog 80 #[.string a0, .string a1] w fun e w' => e = .returned (.int .i64 r) ∧ Drawn0 w w' := by
  have H : (gronx_zzIndex.l0 k a0 a1 0) = some r := h
  clear h
  have H' := Aside0.mk H
  clear H
  go_enter Tryz.func80, Tryz.ntmps80
  go_wp2
  go_loopg [5] k (fun kq v5 w' => ∃ (x5_1 : Int), v5 = .int .i64 x5_1 ∧ Aside0 (gronx_zzIndex.l0 kq a0 a1 x5_1 = some r) ∧ Aside0 (kq ≤ k) ∧ Drawn0 w w')
  case atStart => exact ⟨(0), (by first | rfl | (simp; done) | (simp [*]; done)), H', ⟨Nat.le_refl _⟩, by repeat (first | exact Drawn0.refl _ | apply Drawn0.step)⟩
  case round =>
    clear H'
    try clear p2
    obtain ⟨x5_1, rfl, HA, HK1, ⟨m1, rfl⟩⟩ := hrel
    cases gk with
    | zero => exact absurd HA.out (by simp [gronx_zzIndex.l0])
    | succ k1 =>
      have H := HA.out
      clear HA
      simp only [gronx_zzIndex.l0] at H
      by_cases c3 : (wrap64 (x5_1 + (a1.size : Int))) ≤ (a0.size : Int)
      · rw [if_pos c3] at H
        have c3b0 : decide ((wrap64 (x5_1 + (a1.size : Int))) ≤ (a0.size : Int)) = true := decide_eq_true c3
        clear c3
        by_cases c4 : 0 ≤ x5_1
        · rw [if_pos c4] at H
          have c4b0 := eq_true c4
          have c4b1 : decide (0 ≤ x5_1) = true := decide_eq_true c4
          clear c4
          by_cases c5 : x5_1 ≤ (wrap64 (x5_1 + (a1.size : Int)))
          · rw [if_pos c5] at H
            have c5b0 := eq_true c5
            have c5b1 : decide (x5_1 ≤ (wrap64 (x5_1 + (a1.size : Int)))) = true := decide_eq_true c5
            have c6b0 := eq_true (of_decide_eq_true (by first | (with_reducible assumption) | assumption) : (wrap64 (x5_1 + (a1.size : Int))) ≤ (a0.size : Int))
            by_cases c7 : (a0.extract (x5_1 : Int).toNat ((wrap64 (x5_1 + (a1.size : Int))) : Int).toNat).toList = a1.toList
            · rw [if_pos c7] at H
              have c7b0 : ((a0.extract (x5_1 : Int).toNat ((wrap64 (x5_1 + (a1.size : Int))) : Int).toNat).toList == a1.toList) = true := beq_iff_eq.mpr c7
              have c7b1 : ((a0.extract (x5_1 : Int).toNat ((wrap64 (x5_1 + (a1.size : Int))) : Int).toNat).toList != a1.toList) = false := bne_eq_false_iff_eq.mpr c7
              clear c7
              obtain rfl := Option.some.inj H
              go_wp2
              go_ret
              exact ⟨by first | rfl | (simp; done) | (simp [*]; done), by repeat (first | exact Drawn0.refl _ | apply Drawn0.step)⟩
            · rw [if_neg c7] at H
              have c7b0 : ((a0.extract (x5_1 : Int).toNat ((wrap64 (x5_1 + (a1.size : Int))) : Int).toNat).toList == a1.toList) = false := beq_eq_false_iff_ne.mpr c7
              have c7b1 : ((a0.extract (x5_1 : Int).toNat ((wrap64 (x5_1 + (a1.size : Int))) : Int).toNat).toList != a1.toList) = true := bne_iff_ne.mpr c7
              have H' := Aside0.mk H
              clear H
              go_wp2
              go_roundg k1
              case measure => have := HK1.out; omega
              case rel => exact ⟨(wrap64 (x5_1 + 1)), (by first | rfl | (simp; done) | (simp [*]; done)), H', ⟨by have := HK1.out; omega⟩, by repeat (first | exact Drawn0.refl _ | apply Drawn0.step)⟩
          · rw [if_neg c5] at H
            exact absurd H (by simp)
        · rw [if_neg c4] at H
          exact absurd H (by simp)
      · rw [if_neg c3] at H
        have c3b0 : decide ((wrap64 (x5_1 + (a1.size : Int))) ≤ (a0.size : Int)) = false := decide_eq_false c3
        clear c3
        obtain rfl := Option.some.inj H
        go_wp2
        go_ret
        exact ⟨by first | rfl | (simp; done) | (simp [*]; done), by repeat (first | exact Drawn0.refl _ | apply Drawn0.step)⟩
end Go.Proofs.YtkhgeonlohafgaaGreatDoor.Core
namespace Go.Proofs.YtkhgeonlohafgaaGreatDoor.Core
open Go.RowKit Go.Proofs.YtkhgeonlohafgaaGreatDoorW.PrintWords Go.Proofs.YtkhgeonlohafgaaGreatDoorW.PrintLast Go.Proofs.YtkhgeonlohafgaaGreatDoorW.PrintMore
attribute [local go_sem] max2_int min2_int max_two min_two max_three min_three max_four min_four   -- for this text's walks alone
set_option linter.unusedVariables false
set_option linter.unusedSimpArgs false
def gronx_zzContains.f (k : Nat) (a0 : ByteArray) (a1 : ByteArray) : Option (Bool) := (gronx_zzIndex.f k a0 a1).bind fun t451 => (some (decide (t451 ≥ 0)))
set_option maxHeartbeats 8000000 in
set_option maxRecDepth 100000 in
theorem gronx_zzContains.calls (k : Nat) (a0 : ByteArray) (a1 : ByteArray) (r : Bool) (w : World) (h : gronx_zzContains.f k a0 a1 = some r) :
    Calls Tryz.prog 56 #[.string a0, .string a1] w fun e w' => e = .returned (.bool r) ∧ Drawn0 w w' := by
  have H : ((gronx_zzIndex.f k a0 a1).bind fun t451 => (some (decide (t451 ≥ 0)))) = some r := h
  clear h
  replace H := Option.bind_eq_some_iff.mp H
  obtain ⟨t451, A30, H⟩ := H
  replace H : (some (decide (t451 ≥ 0))) = some r := H
  have A3 := Aside0.mk A30
  clear A30
  obtain rfl := Option.some.inj H
  go_enter Tryz.func56, Tryz.ntmps56
  go_wp2_with (first | ((with_reducible refine gate_callee (f := 80) rfl ?_); refine goesL_ (some 7) rfl rfl Tryz.func80 (by kernel_rfl) rfl #[.string a0, .string a1] rfl (by (try simp only [List.map_toArray, List.map_cons, List.map_nil]); first | done | rfl | (simp only [List.length_drop, List.length_take]; rfl)) ?_; (with_reducible refine (gronx_zzIndex.calls k a0 a1 t451 _ A3.out).mono ?_); rintro e w' ⟨rfl, ⟨nd, rfl⟩⟩; refine ⟨_, rfl, ?_⟩))
  go_ret
  exact ⟨by first | rfl | (simp; done) | (simp [*]; done), by repeat (first | exact Drawn0.refl _ | apply Drawn0.step)⟩
end Go.Proofs.YtkhgeonlohafgaaGreatDoor.Core
namespace Go.Proofs.YtkhgeonlohafgaaGreatDoor.Core
open Go.RowKit Go.Proofs.YtkhgeonlohafgaaGreatDoorW.PrintWords Go.Proofs.YtkhgeonlohafgaaGreatDoorW.PrintLast Go.Proofs.YtkhgeonlohafgaaGreatDoorW.PrintMore
attribute [local go_sem] max2_int min2_int max_two min_two max_three min_three max_four min_four   -- for this text's walks alone
set_option linter.unusedVariables false
set_option linter.unusedSimpArgs false
def gronx_boundsByPos.j0 : Nat → List Int → Int → Bool → Option (List Int)
  | 0, _, _, _ => none
  | k + 1, x2, x4, x5 => if x5 = true then (some (([0, 59] : List Int))) else (if x4 = 2 then (some (([0, 23] : List Int))) else (if x4 = 3 then (some (([1, 31] : List Int))) else (if x4 = 4 then (some (([1, 12] : List Int))) else (if x4 = 5 then (some (([0, 7] : List Int))) else (if x4 = 6 then (some (([0, 9999] : List Int))) else (some x2))))))
def gronx_boundsByPos.f (k : Nat) (a0 : Int) : Option (List Int) := (some (([0, 0] : List Int) : List Int)).bind fun y463 => (if a0 = 0 then (gronx_boundsByPos.j0 k y463 a0 (a0 == 0)) else (gronx_boundsByPos.j0 k y463 a0 (a0 == 1)))
set_option maxHeartbeats 8000000 in
set_option maxRecDepth 100000 in
theorem gronx_boundsByPos.calls (k : Nat) (a0 : Int) (r : List Int) (w : World) (h : gronx_boundsByPos.f k a0 = some r) :
    Calls Tryz.prog 85 #[.int .i64 a0] w fun e w' => ∃ v0_ : Value, e = .returned (v0_) ∧ Kd.R (Kd.int .i64) 3 w' w.heap.size (fun _ => True) v0_ r ∧ Below w.heap.size w w' := by
  have HB := Aside0.mk (Below.refl w.heap.size w)
  have H : ((some (([0, 0] : List Int) : List Int)).bind fun y463 => (if a0 = 0 then (gronx_boundsByPos.j0 k y463 a0 (a0 == 0)) else (gronx_boundsByPos.j0 k y463 a0 (a0 == 1)))) = some r := h
  clear h
  obtain ⟨y463, hy463⟩ : ∃ y_ : List Int, y_ = (([0, 0] : List Int)) := ⟨_, rfl⟩
  replace H : (if a0 = 0 then (gronx_boundsByPos.j0 k y463 a0 (a0 == 0)) else (gronx_boundsByPos.j0 k y463 a0 (a0 == 1))) = some r := by first | (rw [hy463]; with_reducible exact H) | (have H2_ := (Option.bind_some _ _).symm.trans H; rw [hy463]; with_reducible exact H2_) | (have H2_ := (Option.bind_some _ _).symm.trans H; with_reducible exact H2_) | with_reducible exact H | (rw [hy463]; exact H) | exact H
  have Ny463 := Aside0.mk hy463
  clear hy463
  have HC2 := Aside0.mk H
  clear H
  go_enter Tryz.func85, Tryz.ntmps85
  go_upto_if 5 with (first | ((with_reducible refine gate_dst (N := 3) rfl ?_); refine Kd.R_lit (Kd.int .i64) _ 3 ?hg (N := 3) ?hd (xs := ([0, 0] : List Int)) (inner := [.int .i64 0, .int .i64 0]) (ok := fun _ => True) (okp := fun _ => True) ?hr ?hp (fun _ hk => hk) trivial (Below.refl _ _) (Nat.le_refl _) (by simp) ?_; (case hd => rfl); (case hg => rfl); (case hr => first | (go_simp; done) | (go_simp; rfl)); (case hp => exact (Reps.one (show Kd.M (Kd.int .i64) _ _ _ 0 [.int .i64 0] from rfl) (Reps.one (show Kd.M (Kd.int .i64) _ _ _ 0 [.int .i64 0] from rfl) (Reps.none _ _)))); intro v464 w3 ho4 hb hg_ hnew_; clear hg_ hnew_; (first | rw [← Ny463.out] at ho4 | (simp only [Int.reduceToNat] at ho4; rw [← Ny463.out] at ho4)); have n0_ := Aside0.mk (Kd.R_lower ho4 (below_size (by repeat (first | (with_reducible first | exact HB.out | apply below_alloc | apply pw_below_drewN | apply below_drew1) | exact HB.out)))); have n1_ := Aside0.mk (below_step (by repeat (first | (with_reducible first | exact HB.out | apply below_alloc | apply pw_below_drewN | apply below_drew1) | exact HB.out)) hb); clear HB; have HO465 := n0_; have HB := n1_; clear n0_ n1_; clear hb ho4))
  (try simp only [Act.put, List.setIfInBounds_toArray, List.set_cons_zero, List.set_cons_succ])
  go_cut [5] (fun v5 wc => ∃ (kq : Nat) (x5_1 : Bool), v5 = .bool x5_1 ∧ Aside0 (gronx_boundsByPos.j0 kq y463 a0 x5_1 = some r) ∧ Aside0 (kq ≤ k) ∧ Aside0 (Kd.R (Kd.int .i64) 3 wc w.heap.size (fun _ => True) v464 y463) ∧ Aside0 (Below w.heap.size w wc))
  case first =>
    have H := HC2.out
    clear HC2
    by_cases c5 : a0 = 0
    · rw [if_pos c5] at H
      have c5b0 : (a0 == 0) = true := beq_iff_eq.mpr c5
      have c5b1 : (a0 != 0) = false := bne_eq_false_iff_eq.mpr c5
      clear c5
      (first | rw [c5b0] | (simp only [i64_w, i32_w]; rw [c5b0]) | skip)
      have H' := Aside0.mk H
      clear H
      go_wp2
      go_meet
      case rel => exact ⟨_, ((a0 == 0)), (by first | rfl | (simp; done) | (simp [*]; done)), H', ⟨by first | omega | exact Nat.le_refl _⟩, ⟨by (with_reducible repeat (first | apply Kd.R_alloc | apply Kd.R_drewN | apply Kd.R_drew)); exact HO465.out⟩, ⟨by repeat (first | (with_reducible first | exact HB.out | apply below_alloc | apply pw_below_drewN | apply below_drew1) | exact HB.out)⟩⟩
    · rw [if_neg c5] at H
      have c5b0 : (a0 == 0) = false := beq_eq_false_iff_ne.mpr c5
      have c5b1 : (a0 != 0) = true := bne_iff_ne.mpr c5
      (first | rw [c5b0] | (simp only [i64_w, i32_w]; rw [c5b0]) | skip)
      have H' := Aside0.mk H
      clear H
      go_wp2
      go_meet
      case rel => exact ⟨_, ((a0 == 1)), (by first | rfl | (simp; done) | (simp [*]; done)), H', ⟨by first | omega | exact Nat.le_refl _⟩, ⟨by (with_reducible repeat (first | apply Kd.R_alloc | apply Kd.R_drewN | apply Kd.R_drew)); exact HO465.out⟩, ⟨by repeat (first | (with_reducible first | exact HB.out | apply below_alloc | apply pw_below_drewN | apply below_drew1) | exact HB.out)⟩⟩
  case rest =>
    clear HC2
    try clear p2
    try clear c5
    try clear c5b0
    try clear c5b1
    obtain ⟨kq, x5_1, rfl, HA, HJ1, HO_2, HB⟩ := hcut
    cases kq with
    | zero => exact absurd HA.out (by simp [gronx_boundsByPos.j0])
    | succ kj1 =>
      have H := HA.out
      clear HA
      simp only [gronx_boundsByPos.j0] at H
      by_cases c6 : x5_1 = true
      · subst c6
        have H1 : (some (([0, 59] : List Int))) = some r := by rw [if_pos rfl] at H; exact H
        clear H
        have H := H1
        clear H1
        obtain ⟨y466, hy466⟩ : ∃ y_ : List Int, y_ = (([0, 59] : List Int)) := ⟨_, rfl⟩
        replace H : (some y466) = some r := by first | (rw [hy466]; with_reducible exact H) | (have H2_ := (Option.bind_some _ _).symm.trans H; rw [hy466]; with_reducible exact H2_) | (have H2_ := (Option.bind_some _ _).symm.trans H; with_reducible exact H2_) | with_reducible exact H | (rw [hy466]; exact H) | exact H
        have Ny466 := Aside0.mk hy466
        clear hy466
        obtain rfl := Option.some.inj H
        go_wp2_with (first | ((with_reducible refine gate_dst (N := 8) rfl ?_); refine Kd.R_lit (Kd.int .i64) _ 3 ?hg (N := 8) ?hd (xs := ([0, 59] : List Int)) (inner := [.int .i64 0, .int .i64 59]) (ok := fun _ => True) (okp := fun _ => True) ?hr ?hp (fun _ hk => hk) trivial (Below.refl _ _) (Nat.le_refl _) (by simp) ?_; (case hd => rfl); (case hg => rfl); (case hr => first | (go_simp; done) | (go_simp; rfl)); (case hp => exact (Reps.one (show Kd.M (Kd.int .i64) _ _ _ 0 [.int .i64 0] from rfl) (Reps.one (show Kd.M (Kd.int .i64) _ _ _ 59 [.int .i64 59] from rfl) (Reps.none _ _)))); intro v467 w7 ho8 hb hg_ hnew_; clear hg_ hnew_; (first | rw [← Ny466.out] at ho8 | (simp only [Int.reduceToNat] at ho8; rw [← Ny466.out] at ho8)); have n0_ := Aside0.mk (Kd.R_elder' (by (with_reducible repeat (first | apply Kd.R_alloc | apply Kd.R_drewN | apply Kd.R_drew)); exact HO_2.out) (Kd.R_base ho8) hb); have n1_ := Aside0.mk (Kd.R_lower (Kd.R_new' ho8 (Kd.R_lt (by (with_reducible repeat (first | apply Kd.R_alloc | apply Kd.R_drewN | apply Kd.R_drew)); exact HO_2.out))) (below_size (by repeat (first | (with_reducible first | exact HB.out | apply below_alloc | apply pw_below_drewN | apply below_drew1) | exact HB.out)))); have n2_ := Aside0.mk (below_step (by repeat (first | (with_reducible first | exact HB.out | apply below_alloc | apply pw_below_drewN | apply below_drew1) | exact HB.out)) hb); clear HO_2; clear HB; have HO_2 := n0_; have HO468 := n1_; have HB := n2_; clear n0_ n1_ n2_; clear hb ho8))
        go_ret
        exact ⟨_, by first | rfl | (simp [errW_none, errW_some] <;> rfl) | (simp [*, errW_none, errW_some] <;> rfl), by (with_reducible repeat (first | apply Kd.R_alloc | apply Kd.R_drewN | apply Kd.R_drew)); exact Kd.R_mono HO468.out (fun _ hk => trivial), by repeat (first | (with_reducible first | exact HB.out | apply below_alloc | apply pw_below_drewN | apply below_drew1) | exact HB.out)⟩
      · replace c6 := Bool.eq_false_iff.mpr c6
        subst c6
        have H1 : (if a0 = 2 then (some (([0, 23] : List Int))) else (if a0 = 3 then (some (([1, 31] : List Int))) else (if a0 = 4 then (some (([1, 12] : List Int))) else (if a0 = 5 then (some (([0, 7] : List Int))) else (if a0 = 6 then (some (([0, 9999] : List Int))) else (some y463)))))) = some r := by rw [if_neg (show ¬ (false = true) by decide)] at H; exact H
        clear H
        have H := H1
        clear H1
        by_cases c9 : a0 = 2
        · rw [if_pos c9] at H
          have c9b0 : (a0 == 2) = true := beq_iff_eq.mpr c9
          have c9b1 : (a0 != 2) = false := bne_eq_false_iff_eq.mpr c9
          clear c9
          obtain ⟨y469, hy469⟩ : ∃ y_ : List Int, y_ = (([0, 23] : List Int)) := ⟨_, rfl⟩
          replace H : (some y469) = some r := by first | (rw [hy469]; with_reducible exact H) | (have H2_ := (Option.bind_some _ _).symm.trans H; rw [hy469]; with_reducible exact H2_) | (have H2_ := (Option.bind_some _ _).symm.trans H; with_reducible exact H2_) | with_reducible exact H | (rw [hy469]; exact H) | exact H
          have Ny469 := Aside0.mk hy469
          clear hy469
          obtain rfl := Option.some.inj H
          go_wp2_with (first | ((with_reducible refine gate_dst (N := 11) rfl ?_); refine Kd.R_lit (Kd.int .i64) _ 3 ?hg (N := 11) ?hd (xs := ([0, 23] : List Int)) (inner := [.int .i64 0, .int .i64 23]) (ok := fun _ => True) (okp := fun _ => True) ?hr ?hp (fun _ hk => hk) trivial (Below.refl _ _) (Nat.le_refl _) (by simp) ?_; (case hd => rfl); (case hg => rfl); (case hr => first | (go_simp; done) | (go_simp; rfl)); (case hp => exact (Reps.one (show Kd.M (Kd.int .i64) _ _ _ 0 [.int .i64 0] from rfl) (Reps.one (show Kd.M (Kd.int .i64) _ _ _ 23 [.int .i64 23] from rfl) (Reps.none _ _)))); intro v470 w10 ho11 hb hg_ hnew_; clear hg_ hnew_; (first | rw [← Ny469.out] at ho11 | (simp only [Int.reduceToNat] at ho11; rw [← Ny469.out] at ho11)); have n0_ := Aside0.mk (Kd.R_elder' (by (with_reducible repeat (first | apply Kd.R_alloc | apply Kd.R_drewN | apply Kd.R_drew)); exact HO_2.out) (Kd.R_base ho11) hb); have n1_ := Aside0.mk (Kd.R_lower (Kd.R_new' ho11 (Kd.R_lt (by (with_reducible repeat (first | apply Kd.R_alloc | apply Kd.R_drewN | apply Kd.R_drew)); exact HO_2.out))) (below_size (by repeat (first | (with_reducible first | exact HB.out | apply below_alloc | apply pw_below_drewN | apply below_drew1) | exact HB.out)))); have n2_ := Aside0.mk (below_step (by repeat (first | (with_reducible first | exact HB.out | apply below_alloc | apply pw_below_drewN | apply below_drew1) | exact HB.out)) hb); clear HO_2; clear HB; have HO_2 := n0_; have HO471 := n1_; have HB := n2_; clear n0_ n1_ n2_; clear hb ho11))
          go_ret
          exact ⟨_, by first | rfl | (simp [errW_none, errW_some] <;> rfl) | (simp [*, errW_none, errW_some] <;> rfl), by (with_reducible repeat (first | apply Kd.R_alloc | apply Kd.R_drewN | apply Kd.R_drew)); exact Kd.R_mono HO471.out (fun _ hk => trivial), by repeat (first | (with_reducible first | exact HB.out | apply below_alloc | apply pw_below_drewN | apply below_drew1) | exact HB.out)⟩
        · rw [if_neg c9] at H
          have c9b0 : (a0 == 2) = false := beq_eq_false_iff_ne.mpr c9
          have c9b1 : (a0 != 2) = true := bne_iff_ne.mpr c9
          by_cases c12 : a0 = 3
          · rw [if_pos c12] at H
            have c12b0 : (a0 == 3) = true := beq_iff_eq.mpr c12
            have c12b1 : (a0 != 3) = false := bne_eq_false_iff_eq.mpr c12
            clear c12
            obtain ⟨y472, hy472⟩ : ∃ y_ : List Int, y_ = (([1, 31] : List Int)) := ⟨_, rfl⟩
            replace H : (some y472) = some r := by first | (rw [hy472]; with_reducible exact H) | (have H2_ := (Option.bind_some _ _).symm.trans H; rw [hy472]; with_reducible exact H2_) | (have H2_ := (Option.bind_some _ _).symm.trans H; with_reducible exact H2_) | with_reducible exact H | (rw [hy472]; exact H) | exact H
            have Ny472 := Aside0.mk hy472
            clear hy472
            obtain rfl := Option.some.inj H
            go_wp2_with (first | ((with_reducible refine gate_dst (N := 14) rfl ?_); refine Kd.R_lit (Kd.int .i64) _ 3 ?hg (N := 14) ?hd (xs := ([1, 31] : List Int)) (inner := [.int .i64 1, .int .i64 31]) (ok := fun _ => True) (okp := fun _ => True) ?hr ?hp (fun _ hk => hk) trivial (Below.refl _ _) (Nat.le_refl _) (by simp) ?_; (case hd => rfl); (case hg => rfl); (case hr => first | (go_simp; done) | (go_simp; rfl)); (case hp => exact (Reps.one (show Kd.M (Kd.int .i64) _ _ _ 1 [.int .i64 1] from rfl) (Reps.one (show Kd.M (Kd.int .i64) _ _ _ 31 [.int .i64 31] from rfl) (Reps.none _ _)))); intro v473 w13 ho14 hb hg_ hnew_; clear hg_ hnew_; (first | rw [← Ny472.out] at ho14 | (simp only [Int.reduceToNat] at ho14; rw [← Ny472.out] at ho14)); have n0_ := Aside0.mk (Kd.R_elder' (by (with_reducible repeat (first | apply Kd.R_alloc | apply Kd.R_drewN | apply Kd.R_drew)); exact HO_2.out) (Kd.R_base ho14) hb); have n1_ := Aside0.mk (Kd.R_lower (Kd.R_new' ho14 (Kd.R_lt (by (with_reducible repeat (first | apply Kd.R_alloc | apply Kd.R_drewN | apply Kd.R_drew)); exact HO_2.out))) (below_size (by repeat (first | (with_reducible first | exact HB.out | apply below_alloc | apply pw_below_drewN | apply below_drew1) | exact HB.out)))); have n2_ := Aside0.mk (below_step (by repeat (first | (with_reducible first | exact HB.out | apply below_alloc | apply pw_below_drewN | apply below_drew1) | exact HB.out)) hb); clear HO_2; clear HB; have HO_2 := n0_; have HO474 := n1_; have HB := n2_; clear n0_ n1_ n2_; clear hb ho14))
            go_ret
            exact ⟨_, by first | rfl | (simp [errW_none, errW_some] <;> rfl) | (simp [*, errW_none, errW_some] <;> rfl), by (with_reducible repeat (first | apply Kd.R_alloc | apply Kd.R_drewN | apply Kd.R_drew)); exact Kd.R_mono HO474.out (fun _ hk => trivial), by repeat (first | (with_reducible first | exact HB.out | apply below_alloc | apply pw_below_drewN | apply below_drew1) | exact HB.out)⟩
          · rw [if_neg c12] at H
            have c12b0 : (a0 == 3) = false := beq_eq_false_iff_ne.mpr c12
            have c12b1 : (a0 != 3) = true := bne_iff_ne.mpr c12
            by_cases c15 : a0 = 4
            · rw [if_pos c15] at H
              have c15b0 : (a0 == 4) = true := beq_iff_eq.mpr c15
              have c15b1 : (a0 != 4) = false := bne_eq_false_iff_eq.mpr c15
              clear c15
              obtain ⟨y475, hy475⟩ : ∃ y_ : List Int, y_ = (([1, 12] : List Int)) := ⟨_, rfl⟩
              replace H : (some y475) = some r := by first | (rw [hy475]; with_reducible exact H) | (have H2_ := (Option.bind_some _ _).symm.trans H; rw [hy475]; with_reducible exact H2_) | (have H2_ := (Option.bind_some _ _).symm.trans H; with_reducible exact H2_) | with_reducible exact H | (rw [hy475]; exact H) | exact H
              have Ny475 := Aside0.mk hy475
              clear hy475
              obtain rfl := Option.some.inj H
              go_wp2_with (first | ((with_reducible refine gate_dst (N := 17) rfl ?_); refine Kd.R_lit (Kd.int .i64) _ 3 ?hg (N := 17) ?hd (xs := ([1, 12] : List Int)) (inner := [.int .i64 1, .int .i64 12]) (ok := fun _ => True) (okp := fun _ => True) ?hr ?hp (fun _ hk => hk) trivial (Below.refl _ _) (Nat.le_refl _) (by simp) ?_; (case hd => rfl); (case hg => rfl); (case hr => first | (go_simp; done) | (go_simp; rfl)); (case hp => exact (Reps.one (show Kd.M (Kd.int .i64) _ _ _ 1 [.int .i64 1] from rfl) (Reps.one (show Kd.M (Kd.int .i64) _ _ _ 12 [.int .i64 12] from rfl) (Reps.none _ _)))); intro v476 w16 ho17 hb hg_ hnew_; clear hg_ hnew_; (first | rw [← Ny475.out] at ho17 | (simp only [Int.reduceToNat] at ho17; rw [← Ny475.out] at ho17)); have n0_ := Aside0.mk (Kd.R_elder' (by (with_reducible repeat (first | apply Kd.R_alloc | apply Kd.R_drewN | apply Kd.R_drew)); exact HO_2.out) (Kd.R_base ho17) hb); have n1_ := Aside0.mk (Kd.R_lower (Kd.R_new' ho17 (Kd.R_lt (by (with_reducible repeat (first | apply Kd.R_alloc | apply Kd.R_drewN | apply Kd.R_drew)); exact HO_2.out))) (below_size (by repeat (first | (with_reducible first | exact HB.out | apply below_alloc | apply pw_below_drewN | apply below_drew1) | exact HB.out)))); have n2_ := Aside0.mk (below_step (by repeat (first | (with_reducible first | exact HB.out | apply below_alloc | apply pw_below_drewN | apply below_drew1) | exact HB.out)) hb); clear HO_2; clear HB; have HO_2 := n0_; have HO477 := n1_; have HB := n2_; clear n0_ n1_ n2_; clear hb ho17))
              go_ret
              exact ⟨_, by first | rfl | (simp [errW_none, errW_some] <;> rfl) | (simp [*, errW_none, errW_some] <;> rfl), by (with_reducible repeat (first | apply Kd.R_alloc | apply Kd.R_drewN | apply Kd.R_drew)); exact Kd.R_mono HO477.out (fun _ hk => trivial), by repeat (first | (with_reducible first | exact HB.out | apply below_alloc | apply pw_below_drewN | apply below_drew1) | exact HB.out)⟩
            · rw [if_neg c15] at H
              have c15b0 : (a0 == 4) = false := beq_eq_false_iff_ne.mpr c15
              have c15b1 : (a0 != 4) = true := bne_iff_ne.mpr c15
              by_cases c18 : a0 = 5
              · rw [if_pos c18] at H
                have c18b0 : (a0 == 5) = true := beq_iff_eq.mpr c18
                have c18b1 : (a0 != 5) = false := bne_eq_false_iff_eq.mpr c18
                clear c18
                obtain ⟨y478, hy478⟩ : ∃ y_ : List Int, y_ = (([0, 7] : List Int)) := ⟨_, rfl⟩
                replace H : (some y478) = some r := by first | (rw [hy478]; with_reducible exact H) | (have H2_ := (Option.bind_some _ _).symm.trans H; rw [hy478]; with_reducible exact H2_) | (have H2_ := (Option.bind_some _ _).symm.trans H; with_reducible exact H2_) | with_reducible exact H | (rw [hy478]; exact H) | exact H
                have Ny478 := Aside0.mk hy478
                clear hy478
                obtain rfl := Option.some.inj H
                go_wp2_with (first | ((with_reducible refine gate_dst (N := 20) rfl ?_); refine Kd.R_lit (Kd.int .i64) _ 3 ?hg (N := 20) ?hd (xs := ([0, 7] : List Int)) (inner := [.int .i64 0, .int .i64 7]) (ok := fun _ => True) (okp := fun _ => True) ?hr ?hp (fun _ hk => hk) trivial (Below.refl _ _) (Nat.le_refl _) (by simp) ?_; (case hd => rfl); (case hg => rfl); (case hr => first | (go_simp; done) | (go_simp; rfl)); (case hp => exact (Reps.one (show Kd.M (Kd.int .i64) _ _ _ 0 [.int .i64 0] from rfl) (Reps.one (show Kd.M (Kd.int .i64) _ _ _ 7 [.int .i64 7] from rfl) (Reps.none _ _)))); intro v479 w19 ho20 hb hg_ hnew_; clear hg_ hnew_; (first | rw [← Ny478.out] at ho20 | (simp only [Int.reduceToNat] at ho20; rw [← Ny478.out] at ho20)); have n0_ := Aside0.mk (Kd.R_elder' (by (with_reducible repeat (first | apply Kd.R_alloc | apply Kd.R_drewN | apply Kd.R_drew)); exact HO_2.out) (Kd.R_base ho20) hb); have n1_ := Aside0.mk (Kd.R_lower (Kd.R_new' ho20 (Kd.R_lt (by (with_reducible repeat (first | apply Kd.R_alloc | apply Kd.R_drewN | apply Kd.R_drew)); exact HO_2.out))) (below_size (by repeat (first | (with_reducible first | exact HB.out | apply below_alloc | apply pw_below_drewN | apply below_drew1) | exact HB.out)))); have n2_ := Aside0.mk (below_step (by repeat (first | (with_reducible first | exact HB.out | apply below_alloc | apply pw_below_drewN | apply below_drew1) | exact HB.out)) hb); clear HO_2; clear HB; have HO_2 := n0_; have HO480 := n1_; have HB := n2_; clear n0_ n1_ n2_; clear hb ho20))
                go_ret
                exact ⟨_, by first | rfl | (simp [errW_none, errW_some] <;> rfl) | (simp [*, errW_none, errW_some] <;> rfl), by (with_reducible repeat (first | apply Kd.R_alloc | apply Kd.R_drewN | apply Kd.R_drew)); exact Kd.R_mono HO480.out (fun _ hk => trivial), by repeat (first | (with_reducible first | exact HB.out | apply below_alloc | apply pw_below_drewN | apply below_drew1) | exact HB.out)⟩
              · rw [if_neg c18] at H
                have c18b0 : (a0 == 5) = false := beq_eq_false_iff_ne.mpr c18
                have c18b1 : (a0 != 5) = true := bne_iff_ne.mpr c18
                by_cases c21 : a0 = 6
                · rw [if_pos c21] at H
                  have c21b0 : (a0 == 6) = true := beq_iff_eq.mpr c21
                  have c21b1 : (a0 != 6) = false := bne_eq_false_iff_eq.mpr c21
                  clear c21
                  obtain ⟨y481, hy481⟩ : ∃ y_ : List Int, y_ = (([0, 9999] : List Int)) := ⟨_, rfl⟩
                  replace H : (some y481) = some r := by first | (rw [hy481]; with_reducible exact H) | (have H2_ := (Option.bind_some _ _).symm.trans H; rw [hy481]; with_reducible exact H2_) | (have H2_ := (Option.bind_some _ _).symm.trans H; with_reducible exact H2_) | with_reducible exact H | (rw [hy481]; exact H) | exact H
                  have Ny481 := Aside0.mk hy481
                  clear hy481
                  obtain rfl := Option.some.inj H
                  go_wp2_with (first | ((with_reducible refine gate_dst (N := 23) rfl ?_); refine Kd.R_lit (Kd.int .i64) _ 3 ?hg (N := 23) ?hd (xs := ([0, 9999] : List Int)) (inner := [.int .i64 0, .int .i64 9999]) (ok := fun _ => True) (okp := fun _ => True) ?hr ?hp (fun _ hk => hk) trivial (Below.refl _ _) (Nat.le_refl _) (by simp) ?_; (case hd => rfl); (case hg => rfl); (case hr => first | (go_simp; done) | (go_simp; rfl)); (case hp => exact (Reps.one (show Kd.M (Kd.int .i64) _ _ _ 0 [.int .i64 0] from rfl) (Reps.one (show Kd.M (Kd.int .i64) _ _ _ 9999 [.int .i64 9999] from rfl) (Reps.none _ _)))); intro v482 w22 ho23 hb hg_ hnew_; clear hg_ hnew_; (first | rw [← Ny481.out] at ho23 | (simp only [Int.reduceToNat] at ho23; rw [← Ny481.out] at ho23)); have n0_ := Aside0.mk (Kd.R_elder' (by (with_reducible repeat (first | apply Kd.R_alloc | apply Kd.R_drewN | apply Kd.R_drew)); exact HO_2.out) (Kd.R_base ho23) hb); have n1_ := Aside0.mk (Kd.R_lower (Kd.R_new' ho23 (Kd.R_lt (by (with_reducible repeat (first | apply Kd.R_alloc | apply Kd.R_drewN | apply Kd.R_drew)); exact HO_2.out))) (below_size (by repeat (first | (with_reducible first | exact HB.out | apply below_alloc | apply pw_below_drewN | apply below_drew1) | exact HB.out)))); have n2_ := Aside0.mk (below_step (by repeat (first | (with_reducible first | exact HB.out | apply below_alloc | apply pw_below_drewN | apply below_drew1) | exact HB.out)) hb); clear HO_2; clear HB; have HO_2 := n0_; have HO483 := n1_; have HB := n2_; clear n0_ n1_ n2_; clear hb ho23))
                  go_ret
                  exact ⟨_, by first | rfl | (simp [errW_none, errW_some] <;> rfl) | (simp [*, errW_none, errW_some] <;> rfl), by (with_reducible repeat (first | apply Kd.R_alloc | apply Kd.R_drewN | apply Kd.R_drew)); exact Kd.R_mono HO483.out (fun _ hk => trivial), by repeat (first | (with_reducible first | exact HB.out | apply below_alloc | apply pw_below_drewN | apply below_drew1) | exact HB.out)⟩
                · rw [if_neg c21] at H
                  have c21b0 : (a0 == 6) = false := beq_eq_false_iff_ne.mpr c21
                  have c21b1 : (a0 != 6) = true := bne_iff_ne.mpr c21
                  obtain rfl := Option.some.inj H
                  go_wp2
                  go_ret
                  exact ⟨_, by first | rfl | (simp [errW_none, errW_some] <;> rfl) | (simp [*, errW_none, errW_some] <;> rfl), by (with_reducible repeat (first | apply Kd.R_alloc | apply Kd.R_drewN | apply Kd.R_drew)); exact HO_2.out, by repeat (first | (with_reducible first | exact HB.out | apply below_alloc | apply pw_below_drewN | apply below_drew1) | exact HB.out)⟩
end Go.Proofs.YtkhgeonlohafgaaGreatDoor.Core
namespace Go.Proofs.YtkhgeonlohafgaaGreatDoor.Core
open Go.RowKit Go.Proofs.YtkhgeonlohafgaaGreatDoorW.PrintWords Go.Proofs.YtkhgeonlohafgaaGreatDoorW.PrintLast Go.Proofs.YtkhgeonlohafgaaGreatDoorW.PrintMore
attribute [local go_sem] max2_int min2_int max_two min_two max_three min_three max_four min_four   -- for this text's walks alone
set_option linter.unusedVariables false
set_option linter.unusedSimpArgs false
def gronx_zzSplit.l0 : Nat → ByteArray → ByteArray → List ByteArray → Option (List ByteArray)
  | 0, _, _, _ => none
  | k + 1, x0, x1, x5 => (gronx_zzIndex.f k x0 x1).bind fun t195 => (if t195 < 0 then (if x5.length < 8796093022208 then (some (x5 ++ [x0])) else (none)) else (if 0 ≤ t195 then (if t195 ≤ (x0.size : Int) then (if x5.length < 8796093022208 then (if 0 ≤ (wrap64 (t195 + (x1.size : Int))) then (if (wrap64 (t195 + (x1.size : Int))) ≤ (x0.size : Int) then (gronx_zzSplit.l0 k (x0.extract ((wrap64 (t195 + (x1.size : Int))) : Int).toNat x0.size) x1 (x5 ++ [x0.extract 0 (t195 : Int).toNat])) else (none)) else (none)) else (none)) else (none)) else (none)))
def gronx_zzSplit.f (k : Nat) (a0 : ByteArray) (a1 : ByteArray) : Option (List ByteArray) := gronx_zzSplit.l0 k a0 a1 ([] : List ByteArray)
theorem gronx_zzSplit.mono_l : ∀ k, (∀ y0 y1 y2, LeO (gronx_zzSplit.l0 k y0 y1 y2) (gronx_zzSplit.l0 (k + 1) y0 y1 y2))
  | 0 => fun _ _ _ r h => by simp [gronx_zzSplit.l0] at h
  | k + 1 => by
    have ih0 := gronx_zzSplit.mono_l k
    · intro y0 y1 y2
      unfold gronx_zzSplit.l0
      repeat' first
      | (with_reducible exact ih0 _ _ _)
      | (with_reducible exact gronx_zzIndex.mono _ _ _)
      | (with_reducible exact LeO.refl _)
      | (with_reducible exact LeO.none _)
      | (with_reducible refine LeO.ite ?_ ?_)
      | (with_reducible refine LeO.bind ?_ (fun _ => ?_))
      | exact ih0 _ _ _
      | exact gronx_zzIndex.mono _ _ _
      | exact LeO.none _
      | refine LeO.ite ?_ ?_
      | refine LeO.bind ?_ (fun _ => ?_)
theorem gronx_zzSplit.mono : ∀ a0 a1 k, LeO (gronx_zzSplit.f k a0 a1) (gronx_zzSplit.f (k + 1) a0 a1) := by
  intro a0 a1 k
  have ih0 := gronx_zzSplit.mono_l k
  unfold gronx_zzSplit.f
  repeat' first
      | (with_reducible exact ih0 _ _ _)
      | (with_reducible exact gronx_zzIndex.mono _ _ _)
      | (with_reducible exact LeO.refl _)
      | (with_reducible exact LeO.none _)
      | (with_reducible refine LeO.ite ?_ ?_)
      | (with_reducible refine LeO.bind ?_ (fun _ => ?_))
      | exact ih0 _ _ _
      | exact gronx_zzIndex.mono _ _ _
      | exact LeO.none _
      | refine LeO.ite ?_ ?_
      | refine LeO.bind ?_ (fun _ => ?_)
set_option maxHeartbeats 8000000 in
set_option maxRecDepth 100000 in
theorem gronx_zzSplit.calls (k : Nat) (a0 : ByteArray) (a1 : ByteArray) (r : List ByteArray) (w : World) (h : gronx_zzSplit.f k a0 a1 = some r) :
    Calls Tryz.prog 54 #[.string a0, .string a1] w fun e w' => ∃ v0_ : Value, e = .returned (v0_) ∧ Kd.R Kd.string 9 w' w.heap.size (fun _ => True) v0_ r ∧ Below w.heap.size w w' := by
  have HB := Aside0.mk (Below.refl w.heap.size w)
  have H : (gronx_zzSplit.l0 k a0 a1 ([] : List ByteArray)) = some r := h
  clear h
  have H' := Aside0.mk H
  clear H
  go_enter Tryz.func54, Tryz.ntmps54
  go_wp2
  go_loopg [0, 5] k (fun kq v0 v5 w' => ∃ (x0_1 : ByteArray) (x5_1 : List ByteArray), v0 = .string x0_1 ∧ Aside0 (gronx_zzSplit.l0 kq x0_1 a1 x5_1 = some r) ∧ Aside0 (kq ≤ k) ∧ Aside0 (Kd.R Kd.string 9 w' w.heap.size (fun _ => True) v5 x5_1) ∧ Aside0 (Below w.heap.size w w'))
  case atStart => exact ⟨(a0), (([] : List ByteArray)), (by first | rfl | (simp; done) | (simp [*]; done)), H', ⟨Nat.le_refl _⟩, ⟨by first | exact Kd.R_nil _ _ _ _ _ | exact Kd.N_nil _ _ _ _ _ | exact Kd.V_nil _ _ _ _ _ | exact Kd.Q_nil _ _ _ _ _ | exact Kd.S_nil _ _ _ _ _⟩, ⟨by repeat (first | (with_reducible first | exact HB.out | apply below_alloc | apply pw_below_drewN | apply below_drew1) | exact HB.out)⟩⟩
  case round =>
    clear H'
    try clear p2
    obtain ⟨x0_1, x5_1, rfl, HA, HK1, HO_5, HB⟩ := hrel
    cases gk with
    | zero => exact absurd HA.out (by simp [gronx_zzSplit.l0])
    | succ k1 =>
      have H := HA.out
      clear HA
      simp only [gronx_zzSplit.l0] at H
      replace H := Option.bind_eq_some_iff.mp H
      obtain ⟨t195, A30, H⟩ := H
      replace H : (if t195 < 0 then (if x5_1.length < 8796093022208 then (some (x5_1 ++ [x0_1])) else (none)) else (if 0 ≤ t195 then (if t195 ≤ (x0_1.size : Int) then (if x5_1.length < 8796093022208 then (if 0 ≤ (wrap64 (t195 + (a1.size : Int))) then (if (wrap64 (t195 + (a1.size : Int))) ≤ (x0_1.size : Int) then (gronx_zzSplit.l0 k1 (x0_1.extract ((wrap64 (t195 + (a1.size : Int))) : Int).toNat x0_1.size) a1 (x5_1 ++ [x0_1.extract 0 (t195 : Int).toNat])) else (none)) else (none)) else (none)) else (none)) else (none))) = some r := H
      have A3 := Aside0.mk A30
      clear A30
      by_cases c4 : t195 < 0
      · rw [if_pos c4] at H
        have c4b0 : decide (t195 < 0) = true := decide_eq_true c4
        clear c4
        by_cases c5 : x5_1.length < 8796093022208
        · rw [if_pos c5] at H
          have LMc5 := Aside0.mk c5
          clear c5
          obtain ⟨y196, hy196⟩ : ∃ y_ : List ByteArray, y_ = (x5_1 ++ [x0_1]) := ⟨_, rfl⟩
          replace H : (some y196) = some r := by first | (rw [hy196]; with_reducible exact H) | (have H2_ := (Option.bind_some _ _).symm.trans H; rw [hy196]; with_reducible exact H2_) | (have H2_ := (Option.bind_some _ _).symm.trans H; with_reducible exact H2_) | with_reducible exact H | (rw [hy196]; exact H) | exact H
          have Ny196 := Aside0.mk hy196
          clear hy196
          obtain rfl := Option.some.inj H
          go_wp2_with (first | ((with_reducible refine gate_callee (f := 80) rfl ?_); refine goesL_ (some 9) rfl rfl Tryz.func80 (by kernel_rfl) rfl #[.string x0_1, .string a1] rfl (by (try simp only [List.map_toArray, List.map_cons, List.map_nil]); first | done | rfl | (simp only [List.length_drop, List.length_take]; rfl)) ?_; (with_reducible refine (gronx_zzIndex.calls k1 x0_1 a1 t195 _ A3.out).mono ?_); rintro e w' ⟨rfl, ⟨nd, rfl⟩⟩; refine ⟨_, rfl, ?_⟩) | ((with_reducible refine gate_builtin (b := .append) (xs := #[.tmp 12, .tmp 14]) rfl ?_); at_builtin; refine Kd.R_append Kd.string (w0 := w) w.heap.size rfl (.tmp 12) (.tmp 14) 43 9 (.string ⟨#[]⟩) 16 rfl Tryz.underlying43 info9 rfl (by decide) (by omega) u5 x5_1 x0_1 [.string x0_1] (fun _ => True) (fun _ => False) rfl rfl ?aP (fun _ hk => hk.elim) ?aF ?aO ?aB ?aS ?aL ?_; (case aP => exact rfl); (case aB => exact (by repeat (first | (with_reducible first | exact HB.out | apply below_alloc | apply pw_below_drewN | apply below_drew1) | exact HB.out))); (case aF => exact (fun _ _ => trivial)); (case aO => exact (by (with_reducible repeat (first | apply Kd.R_alloc | apply Kd.R_drewN | apply Kd.R_drew)); exact HO_5.out)); (case aS => exact (below_size (by repeat (first | (with_reducible first | exact HB.out | apply below_alloc | apply pw_below_drewN | apply below_drew1) | exact HB.out)))); (case aL => have := LMc5.out; omega); intro v197 w6 ho hb hg hat; rw [← Ny196.out] at ho; have n0_ := Aside0.mk (hb); have n1_ := Aside0.mk (ho); clear HB; clear HO_5; have HB := n0_; have HO198 := n1_; clear n0_ n1_; clear ho hb hg hat))
          go_ret
          exact ⟨_, by first | rfl | (simp [errW_none, errW_some] <;> rfl) | (simp [*, errW_none, errW_some] <;> rfl), by (with_reducible repeat (first | apply Kd.R_alloc | apply Kd.R_drewN | apply Kd.R_drew)); exact HO198.out, by repeat (first | (with_reducible first | exact HB.out | apply below_alloc | apply pw_below_drewN | apply below_drew1) | exact HB.out)⟩
        · rw [if_neg c5] at H
          exact absurd H (by simp)
      · rw [if_neg c4] at H
        have c4b0 : decide (t195 < 0) = false := decide_eq_false c4
        clear c4
        by_cases c7 : 0 ≤ t195
        · rw [if_pos c7] at H
          have c7b0 := eq_true c7
          have c7b1 : decide (0 ≤ t195) = true := decide_eq_true c7
          clear c7
          by_cases c8 : t195 ≤ (x0_1.size : Int)
          · rw [if_pos c8] at H
            have c8b0 := eq_true c8
            have c8b1 : decide (t195 ≤ (x0_1.size : Int)) = true := decide_eq_true c8
            clear c8
            by_cases c9 : x5_1.length < 8796093022208
            · rw [if_pos c9] at H
              have LMc9 := Aside0.mk c9
              clear c9
              obtain ⟨y199, hy199⟩ : ∃ y_ : List ByteArray, y_ = (x5_1 ++ [x0_1.extract 0 (t195 : Int).toNat]) := ⟨_, rfl⟩
              replace H : (if 0 ≤ (wrap64 (t195 + (a1.size : Int))) then (if (wrap64 (t195 + (a1.size : Int))) ≤ (x0_1.size : Int) then (gronx_zzSplit.l0 k1 (x0_1.extract ((wrap64 (t195 + (a1.size : Int))) : Int).toNat x0_1.size) a1 y199) else (none)) else (none)) = some r := by first | (rw [hy199]; with_reducible exact H) | (have H2_ := (Option.bind_some _ _).symm.trans H; rw [hy199]; with_reducible exact H2_) | (have H2_ := (Option.bind_some _ _).symm.trans H; with_reducible exact H2_) | with_reducible exact H | (rw [hy199]; exact H) | exact H
              have Ny199 := Aside0.mk hy199
              clear hy199
              obtain ⟨ji10, hji10⟩ : ∃ j_ : Int, (wrap64 (t195 + (a1.size : Int))) = j_ := ⟨_, rfl⟩
              replace H : (if 0 ≤ (ji10) then (if (ji10) ≤ (x0_1.size : Int) then (gronx_zzSplit.l0 k1 (x0_1.extract ((ji10) : Int).toNat x0_1.size) a1 y199) else (none)) else (none)) = some r := by first | (rw [hji10] at H; exact H) | (simp only [hji10] at H ⊢; exact H)
              (try rw [hji10] at A3)
              have hji10w : (IntKind.i64.wrap (t195 + (a1.size : Int))) = ji10 := (i64_w _).trans hji10
              by_cases c11 : 0 ≤ (ji10)
              · rw [if_pos c11] at H
                have c11b0 := eq_true c11
                have c11b1 : decide (0 ≤ (ji10)) = true := decide_eq_true c11
                clear c11
                by_cases c12 : (ji10) ≤ (x0_1.size : Int)
                · rw [if_pos c12] at H
                  have c12b0 := eq_true c12
                  have c12b1 : decide ((ji10) ≤ (x0_1.size : Int)) = true := decide_eq_true c12
                  clear c12
                  have H' := Aside0.mk H
                  clear H
                  go_wp2_with (first | ((with_reducible refine gate_callee (f := 80) rfl ?_); refine goesL_ (some 9) rfl rfl Tryz.func80 (by kernel_rfl) rfl #[.string x0_1, .string a1] rfl (by (try simp only [List.map_toArray, List.map_cons, List.map_nil]); first | done | rfl | (simp only [List.length_drop, List.length_take]; rfl)) ?_; (with_reducible refine (gronx_zzIndex.calls k1 x0_1 a1 t195 _ A3.out).mono ?_); rintro e w' ⟨rfl, ⟨nd, rfl⟩⟩; refine ⟨_, rfl, ?_⟩) | ((with_reducible refine gate_builtin (b := .append) (xs := #[.tmp 16, .tmp 20]) rfl ?_); at_builtin; refine Kd.R_append Kd.string (w0 := w) w.heap.size rfl (.tmp 16) (.tmp 20) 43 9 (.string ⟨#[]⟩) 16 rfl Tryz.underlying43 info9 rfl (by decide) (by omega) u5 x5_1 (x0_1.extract 0 (t195 : Int).toNat) [.string (x0_1.extract 0 (t195 : Int).toNat)] (fun _ => True) (fun _ => False) rfl rfl ?aP (fun _ hk => hk.elim) ?aF ?aO ?aB ?aS ?aL ?_; (case aP => exact rfl); (case aB => exact (by repeat (first | (with_reducible first | exact HB.out | apply below_alloc | apply pw_below_drewN | apply below_drew1) | exact HB.out))); (case aF => exact (fun _ _ => trivial)); (case aO => exact (by (with_reducible repeat (first | apply Kd.R_alloc | apply Kd.R_drewN | apply Kd.R_drew)); exact HO_5.out)); (case aS => exact (below_size (by repeat (first | (with_reducible first | exact HB.out | apply below_alloc | apply pw_below_drewN | apply below_drew1) | exact HB.out)))); (case aL => have := LMc9.out; omega); intro v200 w13 ho hb hg hat; rw [← Ny199.out] at ho; have n0_ := Aside0.mk (hb); have n1_ := Aside0.mk (ho); clear HB; clear HO_5; have HB := n0_; have HO201 := n1_; clear n0_ n1_; clear ho hb hg hat))
                  go_roundg k1
                  case measure => have := HK1.out; omega
                  case rel => exact ⟨(x0_1.extract ((ji10) : Int).toNat x0_1.size), (y199), (by first | rfl | (simp; done) | (simp only [← hji10] <;> (first | rfl | simp)) | (simp [*]; done)), H', ⟨by have := HK1.out; omega⟩, ⟨by (with_reducible repeat (first | apply Kd.R_alloc | apply Kd.R_drewN | apply Kd.R_drew)); exact HO201.out⟩, ⟨by repeat (first | (with_reducible first | exact HB.out | apply below_alloc | apply pw_below_drewN | apply below_drew1) | exact HB.out)⟩⟩
                · rw [if_neg c12] at H
                  exact absurd H (by simp)
              · rw [if_neg c11] at H
                exact absurd H (by simp)
            · rw [if_neg c9] at H
              exact absurd H (by simp)
          · rw [if_neg c8] at H
            exact absurd H (by simp)
        · rw [if_neg c7] at H
          exact absurd H (by simp)
end Go.Proofs.YtkhgeonlohafgaaGreatDoor.Core
namespace Go.Proofs.YtkhgeonlohafgaaGreatDoor.Core
open Go.RowKit Go.Proofs.YtkhgeonlohafgaaGreatDoorW.PrintWords Go.Proofs.YtkhgeonlohafgaaGreatDoorW.PrintLast Go.Proofs.YtkhgeonlohafgaaGreatDoorW.PrintMore
attribute [local go_sem] max2_int min2_int max_two min_two max_three min_three max_four min_four   -- for this text's walks alone
set_option linter.unusedVariables false
set_option linter.unusedSimpArgs false
mutual
def gronx_inStepRange.l0 : Nat → Int → Int → Int → Int → Option (Bool)
  | 0, _, _, _, _ => none
  | k + 1, x0, x2, x3, x9 => if x9 ≤ x2 then (gronx_inStepRange.j1 k x0 x2 x3 x9 (decide (x9 ≤ x0))) else (gronx_inStepRange.j1 k x0 x2 x3 x9 false)
def gronx_inStepRange.j1 : Nat → Int → Int → Int → Int → Bool → Option (Bool)
  | 0, _, _, _, _, _ => none
  | k + 1, x0, x2, x3, x9, x18 => if x18 = true then (if x9 = x0 then (some true) else (gronx_inStepRange.l0 k x0 x2 x3 (wrap64 (x9 + x3)))) else (some false)
end
def gronx_inStepRange.f (k : Nat) (a0 : Int) (a1 : Int) (a2 : Int) (a3 : Int) : Option (Bool) := gronx_inStepRange.l0 k a0 a2 a3 a1
set_option maxHeartbeats 8000000 in
set_option maxRecDepth 100000 in
theorem gronx_inStepRange.calls (k : Nat) (a0 : Int) (a1 : Int) (a2 : Int) (a3 : Int) (r : Bool) (w : World) (h : gronx_inStepRange.f k a0 a1 a2 a3 = some r) :
    Calls Tryz.prog 112 #[.int .i64 a0, .int .i64 a1, .int .i64 a2, .int .i64 a3] w fun e w' => e = .returned (.bool r) ∧ Drawn0 w w' := by
  have H : (gronx_inStepRange.l0 k a0 a2 a3 a1) = some r := h
  clear h
  have H' := Aside0.mk H
  clear H
  go_enter Tryz.func112, Tryz.ntmps112
  go_wp2
  go_loopg [9] k (fun kq v9 w' => ∃ (x9_1 : Int), v9 = .int .i64 x9_1 ∧ Aside0 (gronx_inStepRange.l0 kq a0 a2 a3 x9_1 = some r) ∧ Aside0 (kq ≤ k) ∧ Drawn0 w w')
  case atStart => exact ⟨(a1), (by first | rfl | (simp; done) | (simp [*]; done)), H', ⟨Nat.le_refl _⟩, by repeat (first | exact Drawn0.refl _ | apply Drawn0.step)⟩
  case round =>
    clear H'
    try clear c1
    try clear p2
    obtain ⟨x9_1, rfl, HA, HK1, ⟨m1, rfl⟩⟩ := hrel
    cases gk with
    | zero => exact absurd HA.out (by simp [gronx_inStepRange.l0])
    | succ k1 =>
      have H := HA.out
      clear HA
      simp only [gronx_inStepRange.l0] at H
      have HC5 := Aside0.mk H
      clear H
      go_upto_region 2 with (fail)
      go_cut [18] (fun v18 wc => ∃ (kq : Nat) (x18_4 : Bool), v18 = .bool x18_4 ∧ Aside0 (gronx_inStepRange.j1 kq a0 a2 a3 x9_1 x18_4 = some r) ∧ Aside0 (kq ≤ k1) ∧ Drawn0 w wc)
      case first =>
        have H := HC5.out
        clear HC5
        by_cases c6 : x9_1 ≤ a2
        · rw [if_pos c6] at H
          have c6b0 : decide (x9_1 ≤ a2) = true := decide_eq_true c6
          clear c6
          (first | rw [c6b0] | (simp only [i64_w, i32_w]; rw [c6b0]) | skip)
          have H' := Aside0.mk H
          clear H
          go_wp2
          go_meet
          case rel => exact ⟨_, (decide (x9_1 ≤ a0)), (by first | rfl | (simp; done) | (simp [*]; done)), H', ⟨by have := HK1.out; first | omega | exact Nat.le_refl _⟩, by repeat (first | exact Drawn0.refl _ | apply Drawn0.step)⟩
        · rw [if_neg c6] at H
          have c6b0 : decide (x9_1 ≤ a2) = false := decide_eq_false c6
          clear c6
          (first | rw [c6b0] | (simp only [i64_w, i32_w]; rw [c6b0]) | skip)
          have H' := Aside0.mk H
          clear H
          go_wp2
          go_meet
          case rel => exact ⟨_, (false), (by first | rfl | (simp; done) | (simp [*]; done)), H', ⟨by have := HK1.out; first | omega | exact Nat.le_refl _⟩, by repeat (first | exact Drawn0.refl _ | apply Drawn0.step)⟩
      case rest =>
        clear HC5
        try clear c1
        try clear p2
        try clear c6
        try clear c6b0
        try clear p2
        obtain ⟨kq, x18_4, rfl, HA, HJ4, ⟨mc4, rfl⟩⟩ := hcut
        cases kq with
        | zero => exact absurd HA.out (by simp [gronx_inStepRange.j1])
        | succ kj4 =>
          have H := HA.out
          clear HA
          simp only [gronx_inStepRange.j1] at H
          by_cases c7 : x18_4 = true
          · subst c7
            have H1 : (if x9_1 = a0 then (some true) else (gronx_inStepRange.l0 kj4 a0 a2 a3 (wrap64 (x9_1 + a3)))) = some r := by rw [if_pos rfl] at H; exact H
            clear H
            have H := H1
            clear H1
            by_cases c8 : x9_1 = a0
            · rw [if_pos c8] at H
              have c8b0 : (x9_1 == a0) = true := beq_iff_eq.mpr c8
              have c8b1 : (x9_1 != a0) = false := bne_eq_false_iff_eq.mpr c8
              clear c8
              obtain rfl := Option.some.inj H
              go_wp2
              go_ret
              exact ⟨by first | rfl | (simp; done) | (simp [*]; done), by repeat (first | exact Drawn0.refl _ | apply Drawn0.step)⟩
            · rw [if_neg c8] at H
              have c8b0 : (x9_1 == a0) = false := beq_eq_false_iff_ne.mpr c8
              have c8b1 : (x9_1 != a0) = true := bne_iff_ne.mpr c8
              have H' := Aside0.mk H
              clear H
              go_wp2
              go_roundg kj4
              case measure => have := HK1.out; have := HJ4.out; omega
              case rel => exact ⟨(wrap64 (x9_1 + a3)), (by first | rfl | (simp; done) | (simp [*]; done)), H', ⟨by have := HK1.out; have := HJ4.out; omega⟩, by repeat (first | exact Drawn0.refl _ | apply Drawn0.step)⟩
          · replace c7 := Bool.eq_false_iff.mpr c7
            subst c7
            have H1 : (some false) = some r := by rw [if_neg (show ¬ (false = true) by decide)] at H; exact H
            clear H
            have H := H1
            clear H1
            obtain rfl := Option.some.inj H
            go_wp2
            go_ret
            exact ⟨by first | rfl | (simp; done) | (simp [*]; done), by repeat (first | exact Drawn0.refl _ | apply Drawn0.step)⟩
end Go.Proofs.YtkhgeonlohafgaaGreatDoor.Core
namespace Go.Proofs
open Go.Shelf
def Tryz.lays158_ren : Go.Shelf.Ren := ⟨fun | 158 => 78 | 165 => 103 | 166 => 104 | 167 => 105 | 169 => 106 | 230 => 107 | 203 => 110 | 240 => 121 | 241 => 122 | 197 => 123 | 118 => 124 | 168 => 125 | 270 => 126 | 262 => 127 | 276 => 133 | 277 => 134 | 260 => 135 | 242 => 136 | 313 => 137 | 278 => 141 | 274 => 142 | 275 => 143 | n => n, fun | 9 => 9 | 4 => 4 | 3 => 3 | 5 => 5 | 72 => 172 | 0 => 0 | 76 => 140 | 75 => 71 | 107 => 177 | 70 => 170 | 20 => 20 | 37 => 78 | 127 => 184 | 21 => 21 | 105 => 185 | 164 => 196 | 162 => 202 | 203 => 200 | 119 => 207 | 46 => 164 | 139 => 210 | 138 => 209 | 51 => 163 | 160 => 211 | 208 => 218 | 206 => 216 | 80 => 175 | n => n, fun | 13 => 0 | 3 => 4 | 4 => 5 | n => n⟩
theorem Tryz.lays158 : Go.Proofs.Lays.n158 Tryz.prog Tryz.lays158_ren := {
  mixed := by kernel_rfl
  f118 := Tryz.func124.trans (congrArg some (by kernel_rfl))
  f158 := Tryz.func78.trans (congrArg some (by kernel_rfl))
  f165 := Tryz.func103.trans (congrArg some (by kernel_rfl))
  f166 := Tryz.func104.trans (congrArg some (by kernel_rfl))
  f167 := Tryz.func105.trans (congrArg some (by kernel_rfl))
  f168 := Tryz.func125.trans (congrArg some (by kernel_rfl))
  f169 := Tryz.func106.trans (congrArg some (by kernel_rfl))
  f197 := Tryz.func123.trans (congrArg some (by kernel_rfl))
  f203 := Tryz.func110.trans (congrArg some (by kernel_rfl))
  f230 := Tryz.func107.trans (congrArg some (by kernel_rfl))
  f240 := Tryz.func121.trans (congrArg some (by kernel_rfl))
  f241 := Tryz.func122.trans (congrArg some (by kernel_rfl))
  f242 := Tryz.func136.trans (congrArg some (by kernel_rfl))
  f260 := Tryz.func135.trans (congrArg some (by kernel_rfl))
  f262 := Tryz.func127.trans (congrArg some (by kernel_rfl))
  f270 := Tryz.func126.trans (congrArg some (by kernel_rfl))
  f274 := Tryz.func142.trans (congrArg some (by kernel_rfl))
  f275 := Tryz.func143.trans (congrArg some (by kernel_rfl))
  f276 := Tryz.func133.trans (congrArg some (by kernel_rfl))
  f277 := Tryz.func134.trans (congrArg some (by kernel_rfl))
  f278 := Tryz.func141.trans (congrArg some (by kernel_rfl))
  f313 := Tryz.func137.trans (congrArg some (by kernel_rfl))
  t0 := Tryz.underlying0
  a0 := Tryz.isAgg0
  z0 := Tryz.sizeOf0
  v0 := Tryz.zeroValue0
  t3 := Tryz.underlying3
  a3 := Tryz.isAgg3
  z3 := Tryz.sizeOf3
  v3 := Tryz.zeroValue3
  t4 := Tryz.underlying4
  a4 := Tryz.isAgg4
  z4 := Tryz.sizeOf4
  v4 := Tryz.zeroValue4
  t5 := Tryz.underlying5
  a5 := Tryz.isAgg5
  z5 := Tryz.sizeOf5
  v5 := Tryz.zeroValue5
  t9 := Tryz.underlying9
  a9 := Tryz.isAgg9
  z9 := Tryz.sizeOf9
  v9 := Tryz.zeroValue9
  t20 := Tryz.underlying20
  a20 := Tryz.isAgg20
  z20 := Tryz.sizeOf20
  v20 := Tryz.zeroValue20
  t21 := Tryz.underlying21
  a21 := Tryz.isAgg21
  z21 := Tryz.sizeOf21
  v21 := Tryz.zeroValue21
  t37 := Tryz.underlying78
  a37 := Tryz.isAgg78
  z37 := Tryz.sizeOf78
  v37 := Tryz.zeroValue78
  t46 := Tryz.underlying164
  a46 := Tryz.isAgg164
  z46 := Tryz.sizeOf164
  v46 := Tryz.zeroValue164
  t51 := Tryz.underlying163
  a51 := Tryz.isAgg163
  z51 := Tryz.sizeOf163
  v51 := Tryz.zeroValue163
  t70 := Tryz.underlying170
  a70 := Tryz.isAgg170
  z70 := Tryz.sizeOf170
  v70 := Tryz.zeroValue170
  t72 := Tryz.underlying172
  a72 := Tryz.isAgg172
  z72 := Tryz.sizeOf172
  v72 := Tryz.zeroValue172
  t75 := Tryz.underlying71
  a75 := Tryz.isAgg71
  z75 := Tryz.sizeOf71
  v75 := Tryz.zeroValue71
  t76 := Tryz.underlying140
  a76 := Tryz.isAgg140
  z76 := Tryz.sizeOf140
  v76 := Tryz.zeroValue140
  t105 := Tryz.underlying185
  a105 := Tryz.isAgg185
  z105 := Tryz.sizeOf185
  v105 := Tryz.zeroValue185
  t107 := Tryz.underlying177
  a107 := Tryz.isAgg177
  z107 := Tryz.sizeOf177
  v107 := Tryz.zeroValue177
  t119 := Tryz.underlying207
  a119 := Tryz.isAgg207
  z119 := Tryz.sizeOf207
  t127 := Tryz.underlying184
  a127 := Tryz.isAgg184
  z127 := Tryz.sizeOf184
  v127 := Tryz.zeroValue184
  t138 := Tryz.underlying209
  a138 := Tryz.isAgg209
  z138 := Tryz.sizeOf209
  v138 := Tryz.zeroValue209
  t139 := Tryz.underlying210
  a139 := Tryz.isAgg210
  z139 := Tryz.sizeOf210
  v139 := Tryz.zeroValue210
  t160 := Tryz.underlying211
  a160 := Tryz.isAgg211
  z160 := Tryz.sizeOf211
  v160 := Tryz.zeroValue211
  t162 := Tryz.underlying202
  a162 := Tryz.isAgg202
  z162 := Tryz.sizeOf202
  v162 := Tryz.zeroValue202
  t164 := Tryz.underlying196
  a164 := Tryz.isAgg196
  z164 := Tryz.sizeOf196
  v164 := Tryz.zeroValue196
  t203 := Tryz.underlying200
  a203 := Tryz.isAgg200
  z203 := Tryz.sizeOf200
  v203 := Tryz.zeroValue200
  t206 := Tryz.underlying216
  a206 := Tryz.isAgg216
  z206 := Tryz.sizeOf216
  v206 := Tryz.zeroValue216
  t208 := Tryz.underlying218
  a208 := Tryz.isAgg218
  z208 := Tryz.sizeOf218
  v208 := Tryz.zeroValue218
  g3 := by kernel_rfl
  g4 := by kernel_rfl
  g13 := by kernel_rfl }
theorem Tryz.Builder_Extra_158 : Builder.Extra Tryz.prog Tryz.lays158_ren := {
  sizeBuilder := by kernel_rfl
  liesBuilder := by kernel_rfl
  t5 := Tryz.underlying5
  a5 := Tryz.isAgg5
  z5 := Tryz.sizeOf5
  v5 := Tryz.zeroValue5
  infoByte := by kernel_rfl
  cellsByte := by kernel_rfl
  sizeByte := by kernel_rfl
  neB5 := by decide }
open Go.RowKit in
theorem Tryz.strings_ToUpper_ascii (s : ByteArray) (w : World) (hs : s.size ≤ 140737488355328) (hascii : ∀ (j : Nat) (b : UInt8), s.data.toList[j]? = some b → b.toNat < 128) :
    Calls Tryz.prog 78 #[.string s] w fun e w' => e = .returned (.string ⟨(Lib.toUpperA s.data.toList).toArray⟩) ∧ Below w.heap.size w w' := Any.strings_ToUpper_ascii Tryz.lays158 Tryz.Builder_Extra_158 s w hs hascii
def Tryz.lays159_ren : Go.Shelf.Ren := ⟨fun | 159 => 75 | 165 => 103 | 166 => 104 | 167 => 105 | 169 => 106 | 230 => 107 | 204 => 108 | 240 => 121 | 241 => 122 | 197 => 123 | 118 => 124 | 168 => 125 | 270 => 126 | 262 => 127 | 276 => 133 | 277 => 134 | 260 => 135 | 242 => 136 | 313 => 137 | 278 => 141 | 274 => 142 | 275 => 143 | n => n, fun | 9 => 9 | 4 => 4 | 3 => 3 | 5 => 5 | 72 => 172 | 0 => 0 | 76 => 140 | 75 => 71 | 107 => 177 | 70 => 170 | 20 => 20 | 37 => 78 | 127 => 184 | 21 => 21 | 105 => 185 | 164 => 196 | 162 => 202 | 203 => 200 | 119 => 207 | 46 => 164 | 139 => 210 | 138 => 209 | 51 => 163 | 160 => 211 | 208 => 218 | 206 => 216 | 80 => 175 | n => n, fun | 13 => 0 | 3 => 4 | 4 => 5 | n => n⟩
theorem Tryz.lays159 : Go.Proofs.Lays.n159 Tryz.prog Tryz.lays159_ren := {
  mixed := by kernel_rfl
  f118 := Tryz.func124.trans (congrArg some (by kernel_rfl))
  f159 := Tryz.func75.trans (congrArg some (by kernel_rfl))
  f165 := Tryz.func103.trans (congrArg some (by kernel_rfl))
  f166 := Tryz.func104.trans (congrArg some (by kernel_rfl))
  f167 := Tryz.func105.trans (congrArg some (by kernel_rfl))
  f168 := Tryz.func125.trans (congrArg some (by kernel_rfl))
  f169 := Tryz.func106.trans (congrArg some (by kernel_rfl))
  f197 := Tryz.func123.trans (congrArg some (by kernel_rfl))
  f204 := Tryz.func108.trans (congrArg some (by kernel_rfl))
  f230 := Tryz.func107.trans (congrArg some (by kernel_rfl))
  f240 := Tryz.func121.trans (congrArg some (by kernel_rfl))
  f241 := Tryz.func122.trans (congrArg some (by kernel_rfl))
  f242 := Tryz.func136.trans (congrArg some (by kernel_rfl))
  f260 := Tryz.func135.trans (congrArg some (by kernel_rfl))
  f262 := Tryz.func127.trans (congrArg some (by kernel_rfl))
  f270 := Tryz.func126.trans (congrArg some (by kernel_rfl))
  f274 := Tryz.func142.trans (congrArg some (by kernel_rfl))
  f275 := Tryz.func143.trans (congrArg some (by kernel_rfl))
  f276 := Tryz.func133.trans (congrArg some (by kernel_rfl))
  f277 := Tryz.func134.trans (congrArg some (by kernel_rfl))
  f278 := Tryz.func141.trans (congrArg some (by kernel_rfl))
  f313 := Tryz.func137.trans (congrArg some (by kernel_rfl))
  t0 := Tryz.underlying0
  a0 := Tryz.isAgg0
  z0 := Tryz.sizeOf0
  v0 := Tryz.zeroValue0
  t3 := Tryz.underlying3
  a3 := Tryz.isAgg3
  z3 := Tryz.sizeOf3
  v3 := Tryz.zeroValue3
  t4 := Tryz.underlying4
  a4 := Tryz.isAgg4
  z4 := Tryz.sizeOf4
  v4 := Tryz.zeroValue4
  t5 := Tryz.underlying5
  a5 := Tryz.isAgg5
  z5 := Tryz.sizeOf5
  v5 := Tryz.zeroValue5
  t9 := Tryz.underlying9
  a9 := Tryz.isAgg9
  z9 := Tryz.sizeOf9
  v9 := Tryz.zeroValue9
  t20 := Tryz.underlying20
  a20 := Tryz.isAgg20
  z20 := Tryz.sizeOf20
  v20 := Tryz.zeroValue20
  t21 := Tryz.underlying21
  a21 := Tryz.isAgg21
  z21 := Tryz.sizeOf21
  v21 := Tryz.zeroValue21
  t37 := Tryz.underlying78
  a37 := Tryz.isAgg78
  z37 := Tryz.sizeOf78
  v37 := Tryz.zeroValue78
  t46 := Tryz.underlying164
  a46 := Tryz.isAgg164
  z46 := Tryz.sizeOf164
  v46 := Tryz.zeroValue164
  t51 := Tryz.underlying163
  a51 := Tryz.isAgg163
  z51 := Tryz.sizeOf163
  v51 := Tryz.zeroValue163
  t70 := Tryz.underlying170
  a70 := Tryz.isAgg170
  z70 := Tryz.sizeOf170
  v70 := Tryz.zeroValue170
  t72 := Tryz.underlying172
  a72 := Tryz.isAgg172
  z72 := Tryz.sizeOf172
  v72 := Tryz.zeroValue172
  t75 := Tryz.underlying71
  a75 := Tryz.isAgg71
  z75 := Tryz.sizeOf71
  v75 := Tryz.zeroValue71
  t76 := Tryz.underlying140
  a76 := Tryz.isAgg140
  z76 := Tryz.sizeOf140
  v76 := Tryz.zeroValue140
  t105 := Tryz.underlying185
  a105 := Tryz.isAgg185
  z105 := Tryz.sizeOf185
  v105 := Tryz.zeroValue185
  t107 := Tryz.underlying177
  a107 := Tryz.isAgg177
  z107 := Tryz.sizeOf177
  v107 := Tryz.zeroValue177
  t119 := Tryz.underlying207
  a119 := Tryz.isAgg207
  z119 := Tryz.sizeOf207
  t127 := Tryz.underlying184
  a127 := Tryz.isAgg184
  z127 := Tryz.sizeOf184
  v127 := Tryz.zeroValue184
  t138 := Tryz.underlying209
  a138 := Tryz.isAgg209
  z138 := Tryz.sizeOf209
  v138 := Tryz.zeroValue209
  t139 := Tryz.underlying210
  a139 := Tryz.isAgg210
  z139 := Tryz.sizeOf210
  v139 := Tryz.zeroValue210
  t160 := Tryz.underlying211
  a160 := Tryz.isAgg211
  z160 := Tryz.sizeOf211
  v160 := Tryz.zeroValue211
  t162 := Tryz.underlying202
  a162 := Tryz.isAgg202
  z162 := Tryz.sizeOf202
  v162 := Tryz.zeroValue202
  t164 := Tryz.underlying196
  a164 := Tryz.isAgg196
  z164 := Tryz.sizeOf196
  v164 := Tryz.zeroValue196
  t203 := Tryz.underlying200
  a203 := Tryz.isAgg200
  z203 := Tryz.sizeOf200
  v203 := Tryz.zeroValue200
  t206 := Tryz.underlying216
  a206 := Tryz.isAgg216
  z206 := Tryz.sizeOf216
  v206 := Tryz.zeroValue216
  t208 := Tryz.underlying218
  a208 := Tryz.isAgg218
  z208 := Tryz.sizeOf218
  v208 := Tryz.zeroValue218
  g3 := by kernel_rfl
  g4 := by kernel_rfl
  g13 := by kernel_rfl }
theorem Tryz.Builder_Extra_159 : Builder.Extra Tryz.prog Tryz.lays159_ren := {
  sizeBuilder := by kernel_rfl
  liesBuilder := by kernel_rfl
  t5 := Tryz.underlying5
  a5 := Tryz.isAgg5
  z5 := Tryz.sizeOf5
  v5 := Tryz.zeroValue5
  infoByte := by kernel_rfl
  cellsByte := by kernel_rfl
  sizeByte := by kernel_rfl
  neB5 := by decide }
open Go.RowKit in
theorem Tryz.strings_ToLower_ascii (s : ByteArray) (w : World) (hs : s.size ≤ 140737488355328) (hascii : ∀ (j : Nat) (b : UInt8), s.data.toList[j]? = some b → b.toNat < 128) :
    Calls Tryz.prog 75 #[.string s] w fun e w' => e = .returned (.string ⟨(Lib.toLowerA s.data.toList).toArray⟩) ∧ Below w.heap.size w w' := Any.strings_ToLower_ascii Tryz.lays159 Tryz.Builder_Extra_159 s w hs hascii
def Tryz.lays172_ren : Go.Shelf.Ren := ⟨fun | 172 => 88 | 244 => 113 | 245 => 114 | 247 => 128 | 279 => 129 | 280 => 130 | 281 => 131 | 282 => 132 | 287 => 138 | 316 => 139 | 171 => 140 | 205 => 51 | 321 => 144 | 322 => 145 | 243 => 146 | 246 => 147 | 283 => 148 | 284 => 149 | 285 => 150 | 286 => 151 | 129 => 153 | 317 => 152 | 318 => 154 | 319 => 155 | 320 => 156 | 337 => 157 | 338 => 158 | n => n, fun | 9 => 9 | 3 => 3 | 75 => 71 | 76 => 140 | 4 => 4 | 5 => 5 | 167 => 190 | 37 => 78 | 0 => 0 | 85 => 191 | 2 => 2 | 168 => 193 | 53 => 60 | 175 => 203 | 46 => 164 | 210 => 206 | 127 => 184 | 145 => 133 | 143 => 131 | 21 => 21 | 171 => 220 | 173 => 223 | 212 => 226 | 51 => 163 | 20 => 20 | 213 => 227 | 232 => 230 | 233 => 231 | 80 => 175 | n => n, fun | 15 => 1 | 16 => 2 | 17 => 6 | 18 => 7 | 19 => 8 | n => n⟩
theorem Tryz.lays172 : Go.Proofs.Lays.n172 Tryz.prog Tryz.lays172_ren := {
  mixed := by kernel_rfl
  f129 := Tryz.func153.trans (congrArg some (by kernel_rfl))
  f171 := Tryz.func140.trans (congrArg some (by kernel_rfl))
  f172 := Tryz.func88.trans (congrArg some (by kernel_rfl))
  f205 := Tryz.func51.trans (congrArg some (by kernel_rfl))
  f243 := Tryz.func146.trans (congrArg some (by kernel_rfl))
  f244 := Tryz.func113.trans (congrArg some (by kernel_rfl))
  f245 := Tryz.func114.trans (congrArg some (by kernel_rfl))
  f246 := Tryz.func147.trans (congrArg some (by kernel_rfl))
  f247 := Tryz.func128.trans (congrArg some (by kernel_rfl))
  f279 := Tryz.func129.trans (congrArg some (by kernel_rfl))
  f280 := Tryz.func130.trans (congrArg some (by kernel_rfl))
  f281 := Tryz.func131.trans (congrArg some (by kernel_rfl))
  f282 := Tryz.func132.trans (congrArg some (by kernel_rfl))
  f283 := Tryz.func148.trans (congrArg some (by kernel_rfl))
  f284 := Tryz.func149.trans (congrArg some (by kernel_rfl))
  f285 := Tryz.func150.trans (congrArg some (by kernel_rfl))
  f286 := Tryz.func151.trans (congrArg some (by kernel_rfl))
  f287 := Tryz.func138.trans (congrArg some (by kernel_rfl))
  f316 := Tryz.func139.trans (congrArg some (by kernel_rfl))
  f317 := Tryz.func152.trans (congrArg some (by kernel_rfl))
  f318 := Tryz.func154.trans (congrArg some (by kernel_rfl))
  f319 := Tryz.func155.trans (congrArg some (by kernel_rfl))
  f320 := Tryz.func156.trans (congrArg some (by kernel_rfl))
  f321 := Tryz.func144.trans (congrArg some (by kernel_rfl))
  f322 := Tryz.func145.trans (congrArg some (by kernel_rfl))
  f337 := Tryz.func157.trans (congrArg some (by kernel_rfl))
  f338 := Tryz.func158.trans (congrArg some (by kernel_rfl))
  t0 := Tryz.underlying0
  a0 := Tryz.isAgg0
  z0 := Tryz.sizeOf0
  v0 := Tryz.zeroValue0
  t2 := Tryz.underlying2
  a2 := Tryz.isAgg2
  z2 := Tryz.sizeOf2
  v2 := Tryz.zeroValue2
  t3 := Tryz.underlying3
  a3 := Tryz.isAgg3
  z3 := Tryz.sizeOf3
  v3 := Tryz.zeroValue3
  t4 := Tryz.underlying4
  a4 := Tryz.isAgg4
  z4 := Tryz.sizeOf4
  v4 := Tryz.zeroValue4
  t5 := Tryz.underlying5
  a5 := Tryz.isAgg5
  z5 := Tryz.sizeOf5
  v5 := Tryz.zeroValue5
  t9 := Tryz.underlying9
  a9 := Tryz.isAgg9
  z9 := Tryz.sizeOf9
  v9 := Tryz.zeroValue9
  t20 := Tryz.underlying20
  a20 := Tryz.isAgg20
  z20 := Tryz.sizeOf20
  v20 := Tryz.zeroValue20
  t21 := Tryz.underlying21
  a21 := Tryz.isAgg21
  z21 := Tryz.sizeOf21
  v21 := Tryz.zeroValue21
  t37 := Tryz.underlying78
  a37 := Tryz.isAgg78
  z37 := Tryz.sizeOf78
  v37 := Tryz.zeroValue78
  t46 := Tryz.underlying164
  a46 := Tryz.isAgg164
  z46 := Tryz.sizeOf164
  v46 := Tryz.zeroValue164
  t51 := Tryz.underlying163
  a51 := Tryz.isAgg163
  z51 := Tryz.sizeOf163
  v51 := Tryz.zeroValue163
  t53 := Tryz.underlying60
  a53 := Tryz.isAgg60
  z53 := Tryz.sizeOf60
  v53 := Tryz.zeroValue60
  t75 := Tryz.underlying71
  a75 := Tryz.isAgg71
  z75 := Tryz.sizeOf71
  v75 := Tryz.zeroValue71
  t76 := Tryz.underlying140
  a76 := Tryz.isAgg140
  z76 := Tryz.sizeOf140
  v76 := Tryz.zeroValue140
  t85 := Tryz.underlying191
  a85 := Tryz.isAgg191
  z85 := Tryz.sizeOf191
  v85 := Tryz.zeroValue191
  t127 := Tryz.underlying184
  a127 := Tryz.isAgg184
  z127 := Tryz.sizeOf184
  v127 := Tryz.zeroValue184
  t143 := Tryz.underlying131
  a143 := Tryz.isAgg131
  z143 := Tryz.sizeOf131
  v143 := Tryz.zeroValue131
  t145 := Tryz.underlying133
  a145 := Tryz.isAgg133
  z145 := Tryz.sizeOf133
  v145 := Tryz.zeroValue133
  t167 := Tryz.underlying190
  a167 := Tryz.isAgg190
  z167 := Tryz.sizeOf190
  v167 := Tryz.zeroValue190
  t168 := Tryz.underlying193
  a168 := Tryz.isAgg193
  z168 := Tryz.sizeOf193
  v168 := Tryz.zeroValue193
  t171 := Tryz.underlying220
  a171 := Tryz.isAgg220
  z171 := Tryz.sizeOf220
  v171 := Tryz.zeroValue220
  t173 := Tryz.underlying223
  a173 := Tryz.isAgg223
  z173 := Tryz.sizeOf223
  v173 := Tryz.zeroValue223
  t175 := Tryz.underlying203
  a175 := Tryz.isAgg203
  z175 := Tryz.sizeOf203
  v175 := Tryz.zeroValue203
  t210 := Tryz.underlying206
  a210 := Tryz.isAgg206
  z210 := Tryz.sizeOf206
  v210 := Tryz.zeroValue206
  t212 := Tryz.underlying226
  a212 := Tryz.isAgg226
  z212 := Tryz.sizeOf226
  v212 := Tryz.zeroValue226
  t213 := Tryz.underlying227
  a213 := Tryz.isAgg227
  z213 := Tryz.sizeOf227
  t232 := Tryz.underlying230
  a232 := Tryz.isAgg230
  z232 := Tryz.sizeOf230
  v232 := Tryz.zeroValue230
  t233 := Tryz.underlying231
  a233 := Tryz.isAgg231
  z233 := Tryz.sizeOf231
  v233 := Tryz.zeroValue231
  g15 := by kernel_rfl
  g16 := by kernel_rfl
  g17 := by kernel_rfl
  g18 := by kernel_rfl
  g19 := by kernel_rfl }
open Go.RowKit in
theorem Tryz.strconv_Atoi (s : ByteArray) (n : Int) (hl : s.size ≤ 18) (h : Lib.atoi s.data.toList = some n) (w : World) :
    Calls Tryz.prog 88 #[.string s] w fun e w' => e = .returned (.tuple #[.int .i64 n, .nilIface]) ∧ ∃ t, w' = Lib.bytesWorld w 5 t := Any.strconv_Atoi Tryz.lays172 s n hl h w
end Go.Proofs
namespace Go.Proofs.YtkhgeonlohafgaaGreatDoor.Core
open Go.RowKit Go.Proofs.YtkhgeonlohafgaaGreatDoorW.PrintWords
def strconv_Atoi.f (a0 : ByteArray) : Option (Int × Option Int) := if a0.size ≤ 18 then ((Lib.atoi a0.data.toList).bind fun n => some (n, none)) else none
theorem strconv_Atoi.calls (a0 : ByteArray) (r1 : Int) (r2 : Option Int) (w : World) (h : strconv_Atoi.f a0 = some (r1, r2)) :
    Calls Tryz.prog 88 #[.string a0] w fun e w' => e = .returned (.tuple #[.int .i64 r1, errW r2]) ∧ Below w.heap.size w w' := by
  unfold strconv_Atoi.f at h
  split at h
  · rename_i h1
    obtain ⟨n, hn, h⟩ := Option.bind_eq_some_iff.1 h
    simp only [Option.some.injEq, Prod.mk.injEq] at h
    obtain ⟨rfl, rfl⟩ := h
    refine (Tryz.strconv_Atoi a0 n h1 hn w).mono ?_
    rintro e w' ⟨rfl, t, rfl⟩
    exact ⟨rfl, bytes_below (Below.refl _ _) (Nat.le_refl _) _ _⟩
  · cases h
end Go.Proofs.YtkhgeonlohafgaaGreatDoor.Core
namespace Go.Proofs.YtkhgeonlohafgaaGreatDoor.Core
open Go.RowKit Go.Proofs.YtkhgeonlohafgaaGreatDoorW.PrintWords Go.Proofs.YtkhgeonlohafgaaGreatDoorW.PrintLast Go.Proofs.YtkhgeonlohafgaaGreatDoorW.PrintMore
attribute [local go_sem] max2_int min2_int max_two min_two max_three min_three max_four min_four   -- for this text's walks alone
set_option linter.unusedVariables false
set_option linter.unusedSimpArgs false
mutual
def gronx_inStep.j0 : Nat → Int → List Int → Bool → Int → List ByteArray → Int → Int → Option (Bool × Option Int)
  | 0, _, _, _, _, _, _, _ => none
  | k + 1, x0, x2, x3, x11, x13, x14, x15 => if (x13.length : Int) > 1 then (if x14 < x15 then (gronx_inStep.j1 k x0 x3 x11 x14 x15 true) else (if 0 < (x2.length : Int) then (if x15 < (rd x2 0) then (gronx_inStep.j1 k x0 x3 x11 x14 x15 true) else (if 1 < (x2.length : Int) then (gronx_inStep.j1 k x0 x3 x11 x14 x15 (decide (x14 > (rd x2 1)))) else (none))) else (none))) else (if 0 < (x2.length : Int) then (if x15 < (rd x2 0) then (gronx_inStep.j1 k x0 x3 x11 x14 x15 true) else (if 1 < (x2.length : Int) then (gronx_inStep.j1 k x0 x3 x11 x14 x15 (decide (x14 > (rd x2 1)))) else (none))) else (none))
def gronx_inStep.j1 : Nat → Int → Bool → Int → Int → Int → Bool → Option (Bool × Option Int)
  | 0, _, _, _, _, _, _ => none
  | k + 1, x0, x3, x11, x14, x15, x98 => if x98 = true then ((errors_New.f (⟨#[115, 116, 101, 112, 32, 111, 117, 116, 32, 111, 102, 32, 98, 111, 117, 110, 100, 115, 40, 44, 32, 41]⟩ : ByteArray)).bind fun t511 => (some (false, t511))) else (if x3 = true then (if x15 = 7 then (gronx_inStep.j2 k x0 x11 x14 x15 (x14 != 7)) else (gronx_inStep.j2 k x0 x11 x14 x15 false)) else ((gronx_inStepRange.f k x0 x15 x14 x11).bind fun t515 => (some (t515, none))))
def gronx_inStep.j2 : Nat → Int → Int → Int → Int → Bool → Option (Bool × Option Int)
  | 0, _, _, _, _, _ => none
  | k + 1, x0, x11, x14, x15, x106 => if x106 = true then (gronx_inStep.j3 k x0 x11 x14 0) else (gronx_inStep.j3 k x0 x11 x14 x15)
def gronx_inStep.j3 : Nat → Int → Int → Int → Int → Option (Bool × Option Int)
  | 0, _, _, _, _ => none
  | k + 1, x0, x11, x14, x15 => if x0 = 0 then ((gronx_inStepRange.f k 0 x15 x14 x11).bind fun t512 => (if t512 = true then (some (true, none)) else ((gronx_inStepRange.f k 7 x15 x14 x11).bind fun t513 => (some (t513, none))))) else ((gronx_inStepRange.f k x0 x15 x14 x11).bind fun t514 => (some (t514, none)))
end
def gronx_inStep.f (k : Nat) (a0 : Int) (a1 : ByteArray) (l2 : List Int) (a3 : Bool) : Option (Bool × Option Int) := (gronx_zzSplit.f k a1 (⟨#[47]⟩ : ByteArray)).bind fun t484 => (if 1 < (t484.length : Int) then ((strconv_Atoi.f (rdOf ByteArray.empty t484 1)).bind fun bt488 => (if bt488.2.isNone = true then (if bt488.1 ≤ 0 then ((errors_New.f (⟨#[115, 116, 101, 112, 32, 99, 97, 110, 39, 116, 32, 98, 101, 32, 48]⟩ : ByteArray)).bind fun t491 => (some (false, t491))) else ((gronx_zzIndex.f k a1 (⟨#[42, 47]⟩ : ByteArray)).bind fun t492 => (if t492 = 0 then (if 0 < (l2.length : Int) then (if bt488.1 = 0 then (none) else (some (((Int.tmod (wrap64 (a0 - (rd l2 0))) bt488.1) == 0), none))) else (none)) else ((gronx_zzIndex.f k a1 (⟨#[48, 47]⟩ : ByteArray)).bind fun t494 => (if t494 = 0 then (if bt488.1 = 0 then (none) else (some (((Int.tmod a0 bt488.1) == 0), none))) else (if 0 < (t484.length : Int) then ((gronx_zzSplit.f k (rdOf ByteArray.empty t484 0) (⟨#[45]⟩ : ByteArray)).bind fun t496 => (if 0 < (t496.length : Int) then ((strconv_Atoi.f (rdOf ByteArray.empty t496 0)).bind fun bt500 => (if bt500.2.isNone = true then (if (t496.length : Int) > 1 then (if 1 < (t496.length : Int) then ((strconv_Atoi.f (rdOf ByteArray.empty t496 1)).bind fun bt504 => (if bt504.2.isNone = true then (gronx_inStep.j0 k a0 l2 a3 bt488.1 t496 bt504.1 bt500.1) else (some (false, some (bt504.2.getD 0))))) else (none)) else (gronx_inStep.j0 k a0 l2 a3 bt488.1 t496 a0 bt500.1)) else (some (false, some (bt500.2.getD 0))))) else (none))) else (none))))))) else (some (false, some (bt488.2.getD 0))))) else (none))
set_option maxHeartbeats 8000000 in
set_option maxRecDepth 100000 in
theorem gronx_inStep.calls (k : Nat) (a0 : Int) (a1 : ByteArray) (A2 : Option Addr) (c2 : Nat) (l2 : List Int) (a3 : Bool) (r1 : Bool) (r2 : Option Int) (w : World) (hr2 : Kd.C (Kd.int .i64) w A2 l2.length l2) (hc2 : l2.length ≤ c2) (h : gronx_inStep.f k a0 a1 l2 a3 = some (r1, r2)) :
    Calls Tryz.prog 86 #[.int .i64 a0, .string a1, .slice A2 l2.length c2, .bool a3] w fun e w' => e = .returned (.tuple #[.bool r1, errW r2]) ∧ Below w.heap.size w w' := by
  have hu71 := Tryz.underlying71
  have HR2 := Aside0.mk hr2
  have HC2 := Aside0.mk hc2
  clear hr2 hc2
  have HB := Aside0.mk (Below.refl w.heap.size w)
  have H : ((gronx_zzSplit.f k a1 (⟨#[47]⟩ : ByteArray)).bind fun t484 => (if 1 < (t484.length : Int) then ((strconv_Atoi.f (rdOf ByteArray.empty t484 1)).bind fun bt488 => (if bt488.2.isNone = true then (if bt488.1 ≤ 0 then ((errors_New.f (⟨#[115, 116, 101, 112, 32, 99, 97, 110, 39, 116, 32, 98, 101, 32, 48]⟩ : ByteArray)).bind fun t491 => (some (false, t491))) else ((gronx_zzIndex.f k a1 (⟨#[42, 47]⟩ : ByteArray)).bind fun t492 => (if t492 = 0 then (if 0 < (l2.length : Int) then (if bt488.1 = 0 then (none) else (some (((Int.tmod (wrap64 (a0 - (rd l2 0))) bt488.1) == 0), none))) else (none)) else ((gronx_zzIndex.f k a1 (⟨#[48, 47]⟩ : ByteArray)).bind fun t494 => (if t494 = 0 then (if bt488.1 = 0 then (none) else (some (((Int.tmod a0 bt488.1) == 0), none))) else (if 0 < (t484.length : Int) then ((gronx_zzSplit.f k (rdOf ByteArray.empty t484 0) (⟨#[45]⟩ : ByteArray)).bind fun t496 => (if 0 < (t496.length : Int) then ((strconv_Atoi.f (rdOf ByteArray.empty t496 0)).bind fun bt500 => (if bt500.2.isNone = true then (if (t496.length : Int) > 1 then (if 1 < (t496.length : Int) then ((strconv_Atoi.f (rdOf ByteArray.empty t496 1)).bind fun bt504 => (if bt504.2.isNone = true then (gronx_inStep.j0 k a0 l2 a3 bt488.1 t496 bt504.1 bt500.1) else (some (false, some (bt504.2.getD 0))))) else (none)) else (gronx_inStep.j0 k a0 l2 a3 bt488.1 t496 a0 bt500.1)) else (some (false, some (bt500.2.getD 0))))) else (none))) else (none))))))) else (some (false, some (bt488.2.getD 0))))) else (none))) = some (r1, r2) := h
  clear h
  replace H := Option.bind_eq_some_iff.mp H
  obtain ⟨t484, A50, H⟩ := H
  replace H : (if 1 < (t484.length : Int) then ((strconv_Atoi.f (rdOf ByteArray.empty t484 1)).bind fun bt488 => (if bt488.2.isNone = true then (if bt488.1 ≤ 0 then ((errors_New.f (⟨#[115, 116, 101, 112, 32, 99, 97, 110, 39, 116, 32, 98, 101, 32, 48]⟩ : ByteArray)).bind fun t491 => (some (false, t491))) else ((gronx_zzIndex.f k a1 (⟨#[42, 47]⟩ : ByteArray)).bind fun t492 => (if t492 = 0 then (if 0 < (l2.length : Int) then (if bt488.1 = 0 then (none) else (some (((Int.tmod (wrap64 (a0 - (rd l2 0))) bt488.1) == 0), none))) else (none)) else ((gronx_zzIndex.f k a1 (⟨#[48, 47]⟩ : ByteArray)).bind fun t494 => (if t494 = 0 then (if bt488.1 = 0 then (none) else (some (((Int.tmod a0 bt488.1) == 0), none))) else (if 0 < (t484.length : Int) then ((gronx_zzSplit.f k (rdOf ByteArray.empty t484 0) (⟨#[45]⟩ : ByteArray)).bind fun t496 => (if 0 < (t496.length : Int) then ((strconv_Atoi.f (rdOf ByteArray.empty t496 0)).bind fun bt500 => (if bt500.2.isNone = true then (if (t496.length : Int) > 1 then (if 1 < (t496.length : Int) then ((strconv_Atoi.f (rdOf ByteArray.empty t496 1)).bind fun bt504 => (if bt504.2.isNone = true then (gronx_inStep.j0 k a0 l2 a3 bt488.1 t496 bt504.1 bt500.1) else (some (false, some (bt504.2.getD 0))))) else (none)) else (gronx_inStep.j0 k a0 l2 a3 bt488.1 t496 a0 bt500.1)) else (some (false, some (bt500.2.getD 0))))) else (none))) else (none))))))) else (some (false, some (bt488.2.getD 0))))) else (none)) = some (r1, r2) := H
  have A5 := Aside0.mk A50
  clear A50
  by_cases c6 : 1 < (t484.length : Int)
  · rw [if_pos c6] at H
    have c6b0 : decide (1 < (t484.length : Int)) = true := decide_eq_true c6
    have c6b1 : decide (1 < t484.length) = true := decide_eq_true (by omega)
    clear c6
    replace H := Option.bind_eq_some_iff.mp H
    obtain ⟨⟨t488, t489⟩, A70, H⟩ := H
    replace H : (if t489.isNone = true then (if t488 ≤ 0 then ((errors_New.f (⟨#[115, 116, 101, 112, 32, 99, 97, 110, 39, 116, 32, 98, 101, 32, 48]⟩ : ByteArray)).bind fun t491 => (some (false, t491))) else ((gronx_zzIndex.f k a1 (⟨#[42, 47]⟩ : ByteArray)).bind fun t492 => (if t492 = 0 then (if 0 < (l2.length : Int) then (if t488 = 0 then (none) else (some (((Int.tmod (wrap64 (a0 - (rd l2 0))) t488) == 0), none))) else (none)) else ((gronx_zzIndex.f k a1 (⟨#[48, 47]⟩ : ByteArray)).bind fun t494 => (if t494 = 0 then (if t488 = 0 then (none) else (some (((Int.tmod a0 t488) == 0), none))) else (if 0 < (t484.length : Int) then ((gronx_zzSplit.f k (rdOf ByteArray.empty t484 0) (⟨#[45]⟩ : ByteArray)).bind fun t496 => (if 0 < (t496.length : Int) then ((strconv_Atoi.f (rdOf ByteArray.empty t496 0)).bind fun bt500 => (if bt500.2.isNone = true then (if (t496.length : Int) > 1 then (if 1 < (t496.length : Int) then ((strconv_Atoi.f (rdOf ByteArray.empty t496 1)).bind fun bt504 => (if bt504.2.isNone = true then (gronx_inStep.j0 k a0 l2 a3 t488 t496 bt504.1 bt500.1) else (some (false, some (bt504.2.getD 0))))) else (none)) else (gronx_inStep.j0 k a0 l2 a3 t488 t496 a0 bt500.1)) else (some (false, some (bt500.2.getD 0))))) else (none))) else (none))))))) else (some (false, some (t489.getD 0)))) = some (r1, r2) := H
    have A7 := Aside0.mk A70
    clear A70
    rcases t489 with _ | q490
    · have H1 : (if t488 ≤ 0 then ((errors_New.f (⟨#[115, 116, 101, 112, 32, 99, 97, 110, 39, 116, 32, 98, 101, 32, 48]⟩ : ByteArray)).bind fun t491 => (some (false, t491))) else ((gronx_zzIndex.f k a1 (⟨#[42, 47]⟩ : ByteArray)).bind fun t492 => (if t492 = 0 then (if 0 < (l2.length : Int) then (if t488 = 0 then (none) else (some (((Int.tmod (wrap64 (a0 - (rd l2 0))) t488) == 0), none))) else (none)) else ((gronx_zzIndex.f k a1 (⟨#[48, 47]⟩ : ByteArray)).bind fun t494 => (if t494 = 0 then (if t488 = 0 then (none) else (some (((Int.tmod a0 t488) == 0), none))) else (if 0 < (t484.length : Int) then ((gronx_zzSplit.f k (rdOf ByteArray.empty t484 0) (⟨#[45]⟩ : ByteArray)).bind fun t496 => (if 0 < (t496.length : Int) then ((strconv_Atoi.f (rdOf ByteArray.empty t496 0)).bind fun bt500 => (if bt500.2.isNone = true then (if (t496.length : Int) > 1 then (if 1 < (t496.length : Int) then ((strconv_Atoi.f (rdOf ByteArray.empty t496 1)).bind fun bt504 => (if bt504.2.isNone = true then (gronx_inStep.j0 k a0 l2 a3 t488 t496 bt504.1 bt500.1) else (some (false, some (bt504.2.getD 0))))) else (none)) else (gronx_inStep.j0 k a0 l2 a3 t488 t496 a0 bt500.1)) else (some (false, some (bt500.2.getD 0))))) else (none))) else (none))))))) = some (r1, r2) := by rw [if_pos (show (none : Option Int).isNone = true by rfl)] at H; exact H
      clear H
      have H := H1
      clear H1
      try simp only [errW_none, errW_some]
      by_cases c8 : t488 ≤ 0
      · rw [if_pos c8] at H
        have c8b0 : decide (t488 ≤ 0) = true := decide_eq_true c8
        clear c8
        replace H := Option.bind_eq_some_iff.mp H
        obtain ⟨t491, A90, H⟩ := H
        replace H : (some (false, t491)) = some (r1, r2) := H
        have A9 := Aside0.mk A90
        clear A90
        simp only [Option.some.injEq, Prod.mk.injEq] at H
        obtain ⟨rfl, rfl⟩ := H
        go_enter Tryz.func86, Tryz.ntmps86
        go_wp2_with (first | ((with_reducible refine gate_callee (f := 54) rfl ?_); refine goesL_ (some 17) rfl rfl Tryz.func54 (by kernel_rfl) rfl #[.string a1, .string (⟨#[47]⟩ : ByteArray)] rfl (by (try simp only [List.map_toArray, List.map_cons, List.map_nil]); first | done | rfl | (simp only [List.length_drop, List.length_take]; rfl)) ?_; (with_reducible refine (gronx_zzSplit.calls k a1 (⟨#[47]⟩ : ByteArray) t484 _ A5.out).mono ?_); rintro e w10 ⟨v485, rfl, ho0, hb⟩; refine ⟨_, rfl, ?_⟩; have n0_ := Aside0.mk (Kd.R_lower ho0 (below_size (by repeat (first | (with_reducible first | exact HB.out | apply below_alloc | apply pw_below_drewN | apply below_drew1) | exact HB.out)))); have n1_ := Aside0.mk (below_step (by repeat (first | (with_reducible first | exact HB.out | apply below_alloc | apply pw_below_drewN | apply below_drew1) | exact HB.out)) hb); clear HB; have HO486 := n0_; have HB := n1_; clear n0_ n1_; (try clear hb); (try clear hb2); (try clear hk); (try clear hi); (try clear ho0); obtain ⟨Ao11, co11, eo11⟩ := Kd.R_slice HO486.out; subst eo11; have p487 : 0 ≤ (1 : Int) := (by omega); have q487 : 1 < (t484.length : Int) := of_decide_eq_true (by first | (with_reducible assumption) | assumption); obtain ⟨ad487, e487, hx487_0⟩ := Kd.at_string (Kd.R_reads' HO486.out).2.2 1 p487 q487; cases e487; (try simp only [show (1 : Int).toNat = 1 from rfl, Nat.reduceMul, Nat.reduceEqDiff, Go.Addr.add, ↓reduceIte] at hx487_0); have qi487 : (1 < t484.length) = True := eq_true (by omega); (try rw [show ((1 : Int)).toNat = 1 from rfl] at hx487_0); replace p487 := eq_true p487; replace q487 := eq_true q487) | ((with_reducible refine gate_callee (f := 88) rfl ?_); refine goesL_ (some 22) rfl rfl Tryz.func88 (by kernel_rfl) rfl #[.string (rdOf ByteArray.empty t484 1)] rfl (by (try simp only [List.map_toArray, List.map_cons, List.map_nil]); first | done | rfl | (simp only [List.length_drop, List.length_take]; rfl)) ?_; (with_reducible refine (strconv_Atoi.calls (rdOf ByteArray.empty t484 1) t488 none _ A7.out).mono ?_); rintro e w12 ⟨rfl, hb⟩; refine ⟨_, rfl, ?_⟩; have n0_ := Aside0.mk (Kd.R_below (by (with_reducible repeat (first | apply Kd.R_alloc | apply Kd.R_drewN | apply Kd.R_drew)); exact HO486.out) hb); have n1_ := Aside0.mk (below_step (by repeat (first | (with_reducible first | exact HB.out | apply below_alloc | apply pw_below_drewN | apply below_drew1) | exact HB.out)) hb); clear HO486; clear HB; have HO486 := n0_; have HB := n1_; clear n0_ n1_; (try clear hb); (try clear hb2); (try clear hk); (try clear hi); (try simp only [errW_none, errW_some])) | ((with_reducible refine gate_callee (f := 51) rfl ?_); refine goesL_ (some 30) rfl rfl Tryz.func51 (by kernel_rfl) rfl #[.string (⟨#[115, 116, 101, 112, 32, 99, 97, 110, 39, 116, 32, 98, 101, 32, 48]⟩ : ByteArray)] rfl (by (try simp only [List.map_toArray, List.map_cons, List.map_nil]); first | done | rfl | (simp only [List.length_drop, List.length_take]; rfl)) ?_; (with_reducible refine (errors_New.calls (⟨#[115, 116, 101, 112, 32, 99, 97, 110, 39, 116, 32, 98, 101, 32, 48]⟩ : ByteArray) t491 _ A9.out).mono ?_); rintro e w13 ⟨rfl, hb⟩; refine ⟨_, rfl, ?_⟩; have n0_ := Aside0.mk (Kd.R_below (by (with_reducible repeat (first | apply Kd.R_alloc | apply Kd.R_drewN | apply Kd.R_drew)); exact HO486.out) hb); have n1_ := Aside0.mk (below_step (by repeat (first | (with_reducible first | exact HB.out | apply below_alloc | apply pw_below_drewN | apply below_drew1) | exact HB.out)) hb); clear HO486; clear HB; have HO486 := n0_; have HB := n1_; clear n0_ n1_; (try clear hb); (try clear hb2); (try clear hk); (try clear hi); (try simp only [errW_none, errW_some])))
        go_ret2
        exact ⟨by first | rfl | (simp [errW_none, errW_some] <;> rfl) | (simp [*, errW_none, errW_some] <;> rfl), by repeat (first | (with_reducible first | exact HB.out | apply below_alloc | apply pw_below_drewN | apply below_drew1) | exact HB.out)⟩
      · rw [if_neg c8] at H
        have c8b0 : decide (t488 ≤ 0) = false := decide_eq_false c8
        clear c8
        replace H := Option.bind_eq_some_iff.mp H
        obtain ⟨t492, A140, H⟩ := H
        replace H : (if t492 = 0 then (if 0 < (l2.length : Int) then (if t488 = 0 then (none) else (some (((Int.tmod (wrap64 (a0 - (rd l2 0))) t488) == 0), none))) else (none)) else ((gronx_zzIndex.f k a1 (⟨#[48, 47]⟩ : ByteArray)).bind fun t494 => (if t494 = 0 then (if t488 = 0 then (none) else (some (((Int.tmod a0 t488) == 0), none))) else (if 0 < (t484.length : Int) then ((gronx_zzSplit.f k (rdOf ByteArray.empty t484 0) (⟨#[45]⟩ : ByteArray)).bind fun t496 => (if 0 < (t496.length : Int) then ((strconv_Atoi.f (rdOf ByteArray.empty t496 0)).bind fun bt500 => (if bt500.2.isNone = true then (if (t496.length : Int) > 1 then (if 1 < (t496.length : Int) then ((strconv_Atoi.f (rdOf ByteArray.empty t496 1)).bind fun bt504 => (if bt504.2.isNone = true then (gronx_inStep.j0 k a0 l2 a3 t488 t496 bt504.1 bt500.1) else (some (false, some (bt504.2.getD 0))))) else (none)) else (gronx_inStep.j0 k a0 l2 a3 t488 t496 a0 bt500.1)) else (some (false, some (bt500.2.getD 0))))) else (none))) else (none))))) = some (r1, r2) := H
        have A14 := Aside0.mk A140
        clear A140
        by_cases c15 : t492 = 0
        · rw [if_pos c15] at H
          have c15b0 : (t492 == 0) = true := beq_iff_eq.mpr c15
          have c15b1 : (t492 != 0) = false := bne_eq_false_iff_eq.mpr c15
          clear c15
          by_cases c16 : 0 < (l2.length : Int)
          · rw [if_pos c16] at H
            have c16b0 : decide (0 < (l2.length : Int)) = true := decide_eq_true c16
            have c16b1 : decide (0 < l2.length) = true := decide_eq_true (by omega)
            clear c16
            by_cases c17 : t488 = 0
            · rw [if_pos c17] at H
              exact absurd H (by simp)
            · rw [if_neg c17] at H
              have c17b0 : (t488 == 0) = false := beq_eq_false_iff_ne.mpr c17
              have c17b1 : (t488 != 0) = true := bne_iff_ne.mpr c17
              simp only [Option.some.injEq, Prod.mk.injEq] at H
              obtain ⟨rfl, rfl⟩ := H
              go_enter Tryz.func86, Tryz.ntmps86
              go_wp2_with (first | ((with_reducible refine gate_callee (f := 54) rfl ?_); refine goesL_ (some 17) rfl rfl Tryz.func54 (by kernel_rfl) rfl #[.string a1, .string (⟨#[47]⟩ : ByteArray)] rfl (by (try simp only [List.map_toArray, List.map_cons, List.map_nil]); first | done | rfl | (simp only [List.length_drop, List.length_take]; rfl)) ?_; (with_reducible refine (gronx_zzSplit.calls k a1 (⟨#[47]⟩ : ByteArray) t484 _ A5.out).mono ?_); rintro e w18 ⟨v485, rfl, ho0, hb⟩; refine ⟨_, rfl, ?_⟩; have n0_ := Aside0.mk (Kd.R_lower ho0 (below_size (by repeat (first | (with_reducible first | exact HB.out | apply below_alloc | apply pw_below_drewN | apply below_drew1) | exact HB.out)))); have n1_ := Aside0.mk (below_step (by repeat (first | (with_reducible first | exact HB.out | apply below_alloc | apply pw_below_drewN | apply below_drew1) | exact HB.out)) hb); clear HB; have HO486 := n0_; have HB := n1_; clear n0_ n1_; (try clear hb); (try clear hb2); (try clear hk); (try clear hi); (try clear ho0); obtain ⟨Ao19, co19, eo19⟩ := Kd.R_slice HO486.out; subst eo19; have p487 : 0 ≤ (1 : Int) := (by omega); have q487 : 1 < (t484.length : Int) := of_decide_eq_true (by first | (with_reducible assumption) | assumption); obtain ⟨ad487, e487, hx487_0⟩ := Kd.at_string (Kd.R_reads' HO486.out).2.2 1 p487 q487; cases e487; (try simp only [show (1 : Int).toNat = 1 from rfl, Nat.reduceMul, Nat.reduceEqDiff, Go.Addr.add, ↓reduceIte] at hx487_0); have qi487 : (1 < t484.length) = True := eq_true (by omega); (try rw [show ((1 : Int)).toNat = 1 from rfl] at hx487_0); replace p487 := eq_true p487; replace q487 := eq_true q487) | ((with_reducible refine gate_callee (f := 88) rfl ?_); refine goesL_ (some 22) rfl rfl Tryz.func88 (by kernel_rfl) rfl #[.string (rdOf ByteArray.empty t484 1)] rfl (by (try simp only [List.map_toArray, List.map_cons, List.map_nil]); first | done | rfl | (simp only [List.length_drop, List.length_take]; rfl)) ?_; (with_reducible refine (strconv_Atoi.calls (rdOf ByteArray.empty t484 1) t488 none _ A7.out).mono ?_); rintro e w20 ⟨rfl, hb⟩; refine ⟨_, rfl, ?_⟩; have n0_ := Aside0.mk (Kd.R_below (by (with_reducible repeat (first | apply Kd.R_alloc | apply Kd.R_drewN | apply Kd.R_drew)); exact HO486.out) hb); have n1_ := Aside0.mk (below_step (by repeat (first | (with_reducible first | exact HB.out | apply below_alloc | apply pw_below_drewN | apply below_drew1) | exact HB.out)) hb); clear HO486; clear HB; have HO486 := n0_; have HB := n1_; clear n0_ n1_; (try clear hb); (try clear hb2); (try clear hk); (try clear hi); (try simp only [errW_none, errW_some])) | ((with_reducible refine gate_callee (f := 80) rfl ?_); refine goesL_ (some 32) rfl rfl Tryz.func80 (by kernel_rfl) rfl #[.string a1, .string (⟨#[42, 47]⟩ : ByteArray)] rfl (by (try simp only [List.map_toArray, List.map_cons, List.map_nil]); first | done | rfl | (simp only [List.length_drop, List.length_take]; rfl)) ?_; (with_reducible refine (gronx_zzIndex.calls k a1 (⟨#[42, 47]⟩ : ByteArray) t492 _ A14.out).mono ?_); rintro e w' ⟨rfl, ⟨nd, rfl⟩⟩; refine ⟨_, rfl, ?_⟩; have p493 : 0 ≤ (0 : Int) := (by omega); have q493 : 0 < (l2.length : Int) := of_decide_eq_true (by first | (with_reducible assumption) | assumption); obtain ⟨ad493, e493, hx493_0⟩ := Kd.at_int HR2.out 0 p493 q493; cases e493; have qi493 : (0 < l2.length) = True := eq_true (by omega); (try rw [show ((0 : Int)).toNat = 0 from rfl] at hx493_0); (try rw [Addr.add_zero'] at hx493_0); replace hx493_0 := (HB.out.cell (World.block_lt_of_cell? w _ hx493_0)).trans hx493_0; replace p493 := eq_true p493; replace q493 := eq_true q493))
              go_ret2
              exact ⟨by first | rfl | (simp [errW_none, errW_some] <;> rfl) | (simp [*, errW_none, errW_some] <;> rfl), by repeat (first | (with_reducible first | exact HB.out | apply below_alloc | apply pw_below_drewN | apply below_drew1) | exact HB.out)⟩
          · rw [if_neg c16] at H
            exact absurd H (by simp)
        · rw [if_neg c15] at H
          have c15b0 : (t492 == 0) = false := beq_eq_false_iff_ne.mpr c15
          have c15b1 : (t492 != 0) = true := bne_iff_ne.mpr c15
          replace H := Option.bind_eq_some_iff.mp H
          obtain ⟨t494, A210, H⟩ := H
          replace H : (if t494 = 0 then (if t488 = 0 then (none) else (some (((Int.tmod a0 t488) == 0), none))) else (if 0 < (t484.length : Int) then ((gronx_zzSplit.f k (rdOf ByteArray.empty t484 0) (⟨#[45]⟩ : ByteArray)).bind fun t496 => (if 0 < (t496.length : Int) then ((strconv_Atoi.f (rdOf ByteArray.empty t496 0)).bind fun bt500 => (if bt500.2.isNone = true then (if (t496.length : Int) > 1 then (if 1 < (t496.length : Int) then ((strconv_Atoi.f (rdOf ByteArray.empty t496 1)).bind fun bt504 => (if bt504.2.isNone = true then (gronx_inStep.j0 k a0 l2 a3 t488 t496 bt504.1 bt500.1) else (some (false, some (bt504.2.getD 0))))) else (none)) else (gronx_inStep.j0 k a0 l2 a3 t488 t496 a0 bt500.1)) else (some (false, some (bt500.2.getD 0))))) else (none))) else (none))) = some (r1, r2) := H
          have A21 := Aside0.mk A210
          clear A210
          by_cases c22 : t494 = 0
          · rw [if_pos c22] at H
            have c22b0 : (t494 == 0) = true := beq_iff_eq.mpr c22
            have c22b1 : (t494 != 0) = false := bne_eq_false_iff_eq.mpr c22
            clear c22
            by_cases c23 : t488 = 0
            · rw [if_pos c23] at H
              exact absurd H (by simp)
            · rw [if_neg c23] at H
              have c23b0 : (t488 == 0) = false := beq_eq_false_iff_ne.mpr c23
              have c23b1 : (t488 != 0) = true := bne_iff_ne.mpr c23
              simp only [Option.some.injEq, Prod.mk.injEq] at H
              obtain ⟨rfl, rfl⟩ := H
              go_enter Tryz.func86, Tryz.ntmps86
              go_wp2_with (first | ((with_reducible refine gate_callee (f := 54) rfl ?_); refine goesL_ (some 17) rfl rfl Tryz.func54 (by kernel_rfl) rfl #[.string a1, .string (⟨#[47]⟩ : ByteArray)] rfl (by (try simp only [List.map_toArray, List.map_cons, List.map_nil]); first | done | rfl | (simp only [List.length_drop, List.length_take]; rfl)) ?_; (with_reducible refine (gronx_zzSplit.calls k a1 (⟨#[47]⟩ : ByteArray) t484 _ A5.out).mono ?_); rintro e w24 ⟨v485, rfl, ho0, hb⟩; refine ⟨_, rfl, ?_⟩; have n0_ := Aside0.mk (Kd.R_lower ho0 (below_size (by repeat (first | (with_reducible first | exact HB.out | apply below_alloc | apply pw_below_drewN | apply below_drew1) | exact HB.out)))); have n1_ := Aside0.mk (below_step (by repeat (first | (with_reducible first | exact HB.out | apply below_alloc | apply pw_below_drewN | apply below_drew1) | exact HB.out)) hb); clear HB; have HO486 := n0_; have HB := n1_; clear n0_ n1_; (try clear hb); (try clear hb2); (try clear hk); (try clear hi); (try clear ho0); obtain ⟨Ao25, co25, eo25⟩ := Kd.R_slice HO486.out; subst eo25; have p487 : 0 ≤ (1 : Int) := (by omega); have q487 : 1 < (t484.length : Int) := of_decide_eq_true (by first | (with_reducible assumption) | assumption); obtain ⟨ad487, e487, hx487_0⟩ := Kd.at_string (Kd.R_reads' HO486.out).2.2 1 p487 q487; cases e487; (try simp only [show (1 : Int).toNat = 1 from rfl, Nat.reduceMul, Nat.reduceEqDiff, Go.Addr.add, ↓reduceIte] at hx487_0); have qi487 : (1 < t484.length) = True := eq_true (by omega); (try rw [show ((1 : Int)).toNat = 1 from rfl] at hx487_0); replace p487 := eq_true p487; replace q487 := eq_true q487) | ((with_reducible refine gate_callee (f := 88) rfl ?_); refine goesL_ (some 22) rfl rfl Tryz.func88 (by kernel_rfl) rfl #[.string (rdOf ByteArray.empty t484 1)] rfl (by (try simp only [List.map_toArray, List.map_cons, List.map_nil]); first | done | rfl | (simp only [List.length_drop, List.length_take]; rfl)) ?_; (with_reducible refine (strconv_Atoi.calls (rdOf ByteArray.empty t484 1) t488 none _ A7.out).mono ?_); rintro e w26 ⟨rfl, hb⟩; refine ⟨_, rfl, ?_⟩; have n0_ := Aside0.mk (Kd.R_below (by (with_reducible repeat (first | apply Kd.R_alloc | apply Kd.R_drewN | apply Kd.R_drew)); exact HO486.out) hb); have n1_ := Aside0.mk (below_step (by repeat (first | (with_reducible first | exact HB.out | apply below_alloc | apply pw_below_drewN | apply below_drew1) | exact HB.out)) hb); clear HO486; clear HB; have HO486 := n0_; have HB := n1_; clear n0_ n1_; (try clear hb); (try clear hb2); (try clear hk); (try clear hi); (try simp only [errW_none, errW_some])) | ((with_reducible refine gate_callee (f := 80) rfl ?_); refine goesL_ (some 32) rfl rfl Tryz.func80 (by kernel_rfl) rfl #[.string a1, .string (⟨#[42, 47]⟩ : ByteArray)] rfl (by (try simp only [List.map_toArray, List.map_cons, List.map_nil]); first | done | rfl | (simp only [List.length_drop, List.length_take]; rfl)) ?_; (with_reducible refine (gronx_zzIndex.calls k a1 (⟨#[42, 47]⟩ : ByteArray) t492 _ A14.out).mono ?_); rintro e w' ⟨rfl, ⟨nd, rfl⟩⟩; refine ⟨_, rfl, ?_⟩) | ((with_reducible refine gate_callee (f := 80) rfl ?_); refine goesL_ (some 43) rfl rfl Tryz.func80 (by kernel_rfl) rfl #[.string a1, .string (⟨#[48, 47]⟩ : ByteArray)] rfl (by (try simp only [List.map_toArray, List.map_cons, List.map_nil]); first | done | rfl | (simp only [List.length_drop, List.length_take]; rfl)) ?_; (with_reducible refine (gronx_zzIndex.calls k a1 (⟨#[48, 47]⟩ : ByteArray) t494 _ A21.out).mono ?_); rintro e w' ⟨rfl, ⟨nd, rfl⟩⟩; refine ⟨_, rfl, ?_⟩))
              go_ret2
              exact ⟨by first | rfl | (simp [errW_none, errW_some] <;> rfl) | (simp [*, errW_none, errW_some] <;> rfl), by repeat (first | (with_reducible first | exact HB.out | apply below_alloc | apply pw_below_drewN | apply below_drew1) | exact HB.out)⟩
          · rw [if_neg c22] at H
            have c22b0 : (t494 == 0) = false := beq_eq_false_iff_ne.mpr c22
            have c22b1 : (t494 != 0) = true := bne_iff_ne.mpr c22
            by_cases c27 : 0 < (t484.length : Int)
            · rw [if_pos c27] at H
              have c27b0 : decide (0 < (t484.length : Int)) = true := decide_eq_true c27
              have c27b1 : decide (0 < t484.length) = true := decide_eq_true (by omega)
              clear c27
              replace H := Option.bind_eq_some_iff.mp H
              obtain ⟨t496, A280, H⟩ := H
              replace H : (if 0 < (t496.length : Int) then ((strconv_Atoi.f (rdOf ByteArray.empty t496 0)).bind fun bt500 => (if bt500.2.isNone = true then (if (t496.length : Int) > 1 then (if 1 < (t496.length : Int) then ((strconv_Atoi.f (rdOf ByteArray.empty t496 1)).bind fun bt504 => (if bt504.2.isNone = true then (gronx_inStep.j0 k a0 l2 a3 t488 t496 bt504.1 bt500.1) else (some (false, some (bt504.2.getD 0))))) else (none)) else (gronx_inStep.j0 k a0 l2 a3 t488 t496 a0 bt500.1)) else (some (false, some (bt500.2.getD 0))))) else (none)) = some (r1, r2) := H
              have A28 := Aside0.mk A280
              clear A280
              by_cases c29 : 0 < (t496.length : Int)
              · rw [if_pos c29] at H
                have c29b0 : decide (0 < (t496.length : Int)) = true := decide_eq_true c29
                have c29b1 : decide (0 < t496.length) = true := decide_eq_true (by omega)
                clear c29
                replace H := Option.bind_eq_some_iff.mp H
                obtain ⟨⟨t500, t501⟩, A300, H⟩ := H
                replace H : (if t501.isNone = true then (if (t496.length : Int) > 1 then (if 1 < (t496.length : Int) then ((strconv_Atoi.f (rdOf ByteArray.empty t496 1)).bind fun bt504 => (if bt504.2.isNone = true then (gronx_inStep.j0 k a0 l2 a3 t488 t496 bt504.1 t500) else (some (false, some (bt504.2.getD 0))))) else (none)) else (gronx_inStep.j0 k a0 l2 a3 t488 t496 a0 t500)) else (some (false, some (t501.getD 0)))) = some (r1, r2) := H
                have A30 := Aside0.mk A300
                clear A300
                rcases t501 with _ | q502
                · have H1 : (if (t496.length : Int) > 1 then (if 1 < (t496.length : Int) then ((strconv_Atoi.f (rdOf ByteArray.empty t496 1)).bind fun bt504 => (if bt504.2.isNone = true then (gronx_inStep.j0 k a0 l2 a3 t488 t496 bt504.1 t500) else (some (false, some (bt504.2.getD 0))))) else (none)) else (gronx_inStep.j0 k a0 l2 a3 t488 t496 a0 t500)) = some (r1, r2) := by rw [if_pos (show (none : Option Int).isNone = true by rfl)] at H; exact H
                  clear H
                  have H := H1
                  clear H1
                  try simp only [errW_none, errW_some]
                  have HC31 := Aside0.mk H
                  clear H
                  go_enter Tryz.func86, Tryz.ntmps86
                  go_upto_if 66 with (first | ((with_reducible refine gate_callee (f := 54) rfl ?_); refine goesL_ (some 17) rfl rfl Tryz.func54 (by kernel_rfl) rfl #[.string a1, .string (⟨#[47]⟩ : ByteArray)] rfl (by (try simp only [List.map_toArray, List.map_cons, List.map_nil]); first | done | rfl | (simp only [List.length_drop, List.length_take]; rfl)) ?_; (with_reducible refine (gronx_zzSplit.calls k a1 (⟨#[47]⟩ : ByteArray) t484 _ A5.out).mono ?_); rintro e w32 ⟨v485, rfl, ho0, hb⟩; refine ⟨_, rfl, ?_⟩; have n0_ := Aside0.mk (Kd.R_lower ho0 (below_size (by repeat (first | (with_reducible first | exact HB.out | apply below_alloc | apply pw_below_drewN | apply below_drew1) | exact HB.out)))); have n1_ := Aside0.mk (below_step (by repeat (first | (with_reducible first | exact HB.out | apply below_alloc | apply pw_below_drewN | apply below_drew1) | exact HB.out)) hb); clear HB; have HO486 := n0_; have HB := n1_; clear n0_ n1_; (try clear hb); (try clear hb2); (try clear hk); (try clear hi); (try clear ho0); obtain ⟨Ao33, co33, eo33⟩ := Kd.R_slice HO486.out; subst eo33; have p487 : 0 ≤ (1 : Int) := (by omega); have q487 : 1 < (t484.length : Int) := of_decide_eq_true (by first | (with_reducible assumption) | assumption); obtain ⟨ad487, e487, hx487_0⟩ := Kd.at_string (Kd.R_reads' HO486.out).2.2 1 p487 q487; cases e487; (try simp only [show (1 : Int).toNat = 1 from rfl, Nat.reduceMul, Nat.reduceEqDiff, Go.Addr.add, ↓reduceIte] at hx487_0); have qi487 : (1 < t484.length) = True := eq_true (by omega); (try rw [show ((1 : Int)).toNat = 1 from rfl] at hx487_0); replace p487 := eq_true p487; replace q487 := eq_true q487) | ((with_reducible refine gate_callee (f := 88) rfl ?_); refine goesL_ (some 22) rfl rfl Tryz.func88 (by kernel_rfl) rfl #[.string (rdOf ByteArray.empty t484 1)] rfl (by (try simp only [List.map_toArray, List.map_cons, List.map_nil]); first | done | rfl | (simp only [List.length_drop, List.length_take]; rfl)) ?_; (with_reducible refine (strconv_Atoi.calls (rdOf ByteArray.empty t484 1) t488 none _ A7.out).mono ?_); rintro e w34 ⟨rfl, hb⟩; refine ⟨_, rfl, ?_⟩; have n0_ := Aside0.mk (Kd.R_below (by (with_reducible repeat (first | apply Kd.R_alloc | apply Kd.R_drewN | apply Kd.R_drew)); exact HO486.out) hb); have n1_ := Aside0.mk (below_step (by repeat (first | (with_reducible first | exact HB.out | apply below_alloc | apply pw_below_drewN | apply below_drew1) | exact HB.out)) hb); clear HO486; clear HB; have HO486 := n0_; have HB := n1_; clear n0_ n1_; (try clear hb); (try clear hb2); (try clear hk); (try clear hi); (try simp only [errW_none, errW_some])) | ((with_reducible refine gate_callee (f := 80) rfl ?_); refine goesL_ (some 32) rfl rfl Tryz.func80 (by kernel_rfl) rfl #[.string a1, .string (⟨#[42, 47]⟩ : ByteArray)] rfl (by (try simp only [List.map_toArray, List.map_cons, List.map_nil]); first | done | rfl | (simp only [List.length_drop, List.length_take]; rfl)) ?_; (with_reducible refine (gronx_zzIndex.calls k a1 (⟨#[42, 47]⟩ : ByteArray) t492 _ A14.out).mono ?_); rintro e w' ⟨rfl, ⟨nd, rfl⟩⟩; refine ⟨_, rfl, ?_⟩) | ((with_reducible refine gate_callee (f := 80) rfl ?_); refine goesL_ (some 43) rfl rfl Tryz.func80 (by kernel_rfl) rfl #[.string a1, .string (⟨#[48, 47]⟩ : ByteArray)] rfl (by (try simp only [List.map_toArray, List.map_cons, List.map_nil]); first | done | rfl | (simp only [List.length_drop, List.length_take]; rfl)) ?_; (with_reducible refine (gronx_zzIndex.calls k a1 (⟨#[48, 47]⟩ : ByteArray) t494 _ A21.out).mono ?_); rintro e w' ⟨rfl, ⟨nd, rfl⟩⟩; refine ⟨_, rfl, ?_⟩; have p495 : 0 ≤ (0 : Int) := (by omega); have q495 : 0 < (t484.length : Int) := of_decide_eq_true (by first | (with_reducible assumption) | assumption); obtain ⟨ad495, e495, hx495_0⟩ := Kd.at_string (Kd.R_reads' HO486.out).2.2 0 p495 q495; obtain rfl : ad487 = ad495 := (by injection e495); have qi495 : (0 < t484.length) = True := eq_true (by omega); (try rw [show ((0 : Int)).toNat = 0 from rfl] at hx495_0); (try rw [Addr.add_zero'] at hx495_0); replace p495 := eq_true p495; replace q495 := eq_true q495) | ((with_reducible refine gate_callee (f := 54) rfl ?_); refine goesL_ (some 52) rfl rfl Tryz.func54 (by kernel_rfl) rfl #[.string (rdOf ByteArray.empty t484 0), .string (⟨#[45]⟩ : ByteArray)] rfl (by (try simp only [List.map_toArray, List.map_cons, List.map_nil]); first | done | rfl | (simp only [List.length_drop, List.length_take]; rfl)) ?_; (with_reducible refine (gronx_zzSplit.calls k (rdOf ByteArray.empty t484 0) (⟨#[45]⟩ : ByteArray) t496 _ A28.out).mono ?_); rintro e w35 ⟨v497, rfl, ho0, hb⟩; refine ⟨_, rfl, ?_⟩; have n0_ := Aside0.mk (Kd.R_elder' (by (with_reducible repeat (first | apply Kd.R_alloc | apply Kd.R_drewN | apply Kd.R_drew)); exact HO486.out) (Kd.R_base ho0) hb); have n1_ := Aside0.mk (Kd.R_lower (Kd.R_new' ho0 (Kd.R_lt (by (with_reducible repeat (first | apply Kd.R_alloc | apply Kd.R_drewN | apply Kd.R_drew)); exact HO486.out))) (below_size (by repeat (first | (with_reducible first | exact HB.out | apply below_alloc | apply pw_below_drewN | apply below_drew1) | exact HB.out)))); have n2_ := Aside0.mk (below_step (by repeat (first | (with_reducible first | exact HB.out | apply below_alloc | apply pw_below_drewN | apply below_drew1) | exact HB.out)) hb); clear HO486; clear HB; have HO486 := n0_; have HO498 := n1_; have HB := n2_; clear n0_ n1_ n2_; (try clear hb); (try clear hb2); (try clear hk); (try clear hi); (try clear ho0); obtain ⟨Ao36, co36, eo36⟩ := Kd.R_slice HO498.out; subst eo36; have p499 : 0 ≤ (0 : Int) := (by omega); have q499 : 0 < (t496.length : Int) := of_decide_eq_true (by first | (with_reducible assumption) | assumption); obtain ⟨ad499, e499, hx499_0⟩ := Kd.at_string (Kd.R_reads' HO498.out).2.2 0 p499 q499; cases e499; have qi499 : (0 < t496.length) = True := eq_true (by omega); (try rw [show ((0 : Int)).toNat = 0 from rfl] at hx499_0); (try rw [Addr.add_zero'] at hx499_0); replace p499 := eq_true p499; replace q499 := eq_true q499) | ((with_reducible refine gate_callee (f := 88) rfl ?_); refine goesL_ (some 58) rfl rfl Tryz.func88 (by kernel_rfl) rfl #[.string (rdOf ByteArray.empty t496 0)] rfl (by (try simp only [List.map_toArray, List.map_cons, List.map_nil]); first | done | rfl | (simp only [List.length_drop, List.length_take]; rfl)) ?_; (with_reducible refine (strconv_Atoi.calls (rdOf ByteArray.empty t496 0) t500 none _ A30.out).mono ?_); rintro e w37 ⟨rfl, hb⟩; refine ⟨_, rfl, ?_⟩; have n0_ := Aside0.mk (Kd.R_below (by (with_reducible repeat (first | apply Kd.R_alloc | apply Kd.R_drewN | apply Kd.R_drew)); exact HO486.out) hb); have n1_ := Aside0.mk (Kd.R_below (by (with_reducible repeat (first | apply Kd.R_alloc | apply Kd.R_drewN | apply Kd.R_drew)); exact HO498.out) hb); have n2_ := Aside0.mk (below_step (by repeat (first | (with_reducible first | exact HB.out | apply below_alloc | apply pw_below_drewN | apply below_drew1) | exact HB.out)) hb); clear HO486; clear HO498; clear HB; have HO486 := n0_; have HO498 := n1_; have HB := n2_; clear n0_ n1_ n2_; (try clear hb); (try clear hb2); (try clear hk); (try clear hi); (try simp only [errW_none, errW_some])))
                  (try simp only [Act.put, List.setIfInBounds_toArray, List.set_cons_zero, List.set_cons_succ])
                  go_cut [14] (fun v14 wc => ∃ (kq : Nat) (x14_30 : Int), v14 = .int .i64 x14_30 ∧ Aside0 (gronx_inStep.j0 kq a0 l2 a3 t488 t496 x14_30 t500 = some (r1, r2)) ∧ Aside0 (kq ≤ k) ∧ Aside0 (Kd.R Kd.string 9 wc w.heap.size (fun _ => True) (.slice (some ad499) t496.length co36) t496) ∧ Aside0 (Below w.heap.size w wc))
                  case first =>
                    have H := HC31.out
                    clear HC31
                    by_cases c38 : (t496.length : Int) > 1
                    · rw [if_pos c38] at H
                      have c38b0 : decide (1 < (t496.length : Int)) = true := decide_eq_true c38
                      have c38b1 : decide (1 < t496.length) = true := decide_eq_true (by omega)
                      clear c38
                      (first | rw [c38b0] | (simp only [i64_w, i32_w]; rw [c38b0]) | skip)
                      by_cases c39 : 1 < (t496.length : Int)
                      · rw [if_pos c39] at H
                        have c39b0 : decide (1 < (t496.length : Int)) = true := decide_eq_true c39
                        have c39b1 : decide (1 < t496.length) = true := decide_eq_true (by omega)
                        clear c39
                        replace H := Option.bind_eq_some_iff.mp H
                        obtain ⟨⟨t504, t505⟩, A400, H⟩ := H
                        replace H : (if t505.isNone = true then (gronx_inStep.j0 k a0 l2 a3 t488 t496 t504 t500) else (some (false, some (t505.getD 0)))) = some (r1, r2) := H
                        have A40 := Aside0.mk A400
                        clear A400
                        rcases t505 with _ | q506
                        · have H1 : (gronx_inStep.j0 k a0 l2 a3 t488 t496 t504 t500) = some (r1, r2) := by rw [if_pos (show (none : Option Int).isNone = true by rfl)] at H; exact H
                          clear H
                          have H := H1
                          clear H1
                          try simp only [errW_none, errW_some]
                          have H' := Aside0.mk H
                          clear H
                          have p503 : 0 ≤ (1 : Int) := (by omega)
                          have q503 : 1 < (t496.length : Int) := of_decide_eq_true (by first | (with_reducible assumption) | assumption)
                          obtain ⟨ad503, e503, hx503_0⟩ := Kd.at_string (Kd.R_reads' HO498.out).2.2 1 p503 q503
                          obtain rfl : ad499 = ad503 := (by injection e503)
                          (try simp only [show (1 : Int).toNat = 1 from rfl, Nat.reduceMul, Nat.reduceEqDiff, Go.Addr.add, ↓reduceIte] at hx503_0)
                          have qi503 : (1 < t496.length) = True := eq_true (by omega)
                          (try rw [show ((1 : Int)).toNat = 1 from rfl] at hx503_0)
                          replace p503 := eq_true p503
                          replace q503 := eq_true q503
                          go_wp2_with (first | ((with_reducible refine gate_callee (f := 88) rfl ?_); refine goesL_ (some 71) rfl rfl Tryz.func88 (by kernel_rfl) rfl #[.string (rdOf ByteArray.empty t496 1)] rfl (by (try simp only [List.map_toArray, List.map_cons, List.map_nil]); first | done | rfl | (simp only [List.length_drop, List.length_take]; rfl)) ?_; (with_reducible refine (strconv_Atoi.calls (rdOf ByteArray.empty t496 1) t504 none _ A40.out).mono ?_); rintro e w41 ⟨rfl, hb⟩; refine ⟨_, rfl, ?_⟩; have n0_ := Aside0.mk (Kd.R_below (by (with_reducible repeat (first | apply Kd.R_alloc | apply Kd.R_drewN | apply Kd.R_drew)); exact HO486.out) hb); have n1_ := Aside0.mk (Kd.R_below (by (with_reducible repeat (first | apply Kd.R_alloc | apply Kd.R_drewN | apply Kd.R_drew)); exact HO498.out) hb); have n2_ := Aside0.mk (below_step (by repeat (first | (with_reducible first | exact HB.out | apply below_alloc | apply pw_below_drewN | apply below_drew1) | exact HB.out)) hb); clear HO486; clear HO498; clear HB; have HO486 := n0_; have HO498 := n1_; have HB := n2_; clear n0_ n1_ n2_; (try clear hb); (try clear hb2); (try clear hk); (try clear hi); (try simp only [errW_none, errW_some])))
                          go_meet
                          case rel => exact ⟨_, (t504), (by first | rfl | (simp; done) | (simp [*]; done)), H', ⟨by first | omega | exact Nat.le_refl _⟩, ⟨by (with_reducible repeat (first | apply Kd.R_alloc | apply Kd.R_drewN | apply Kd.R_drew)); exact Kd.R_mono HO498.out (fun _ hk => trivial)⟩, ⟨by repeat (first | (with_reducible first | exact HB.out | apply below_alloc | apply pw_below_drewN | apply below_drew1) | exact HB.out)⟩⟩
                        · have H1 : (some (false, some q506)) = some (r1, r2) := by rw [if_neg (show ¬ (some q506).isNone = true by simp)] at H; exact H
                          clear H
                          have H := H1
                          clear H1
                          try simp only [errW_none, errW_some]
                          simp only [Option.some.injEq, Prod.mk.injEq] at H
                          obtain ⟨rfl, rfl⟩ := H
                          have p503 : 0 ≤ (1 : Int) := (by omega)
                          have q503 : 1 < (t496.length : Int) := of_decide_eq_true (by first | (with_reducible assumption) | assumption)
                          obtain ⟨ad503, e503, hx503_0⟩ := Kd.at_string (Kd.R_reads' HO498.out).2.2 1 p503 q503
                          obtain rfl : ad499 = ad503 := (by injection e503)
                          (try simp only [show (1 : Int).toNat = 1 from rfl, Nat.reduceMul, Nat.reduceEqDiff, Go.Addr.add, ↓reduceIte] at hx503_0)
                          have qi503 : (1 < t496.length) = True := eq_true (by omega)
                          (try rw [show ((1 : Int)).toNat = 1 from rfl] at hx503_0)
                          replace p503 := eq_true p503
                          replace q503 := eq_true q503
                          go_wp2_with (first | ((with_reducible refine gate_callee (f := 88) rfl ?_); refine goesL_ (some 71) rfl rfl Tryz.func88 (by kernel_rfl) rfl #[.string (rdOf ByteArray.empty t496 1)] rfl (by (try simp only [List.map_toArray, List.map_cons, List.map_nil]); first | done | rfl | (simp only [List.length_drop, List.length_take]; rfl)) ?_; (with_reducible refine (strconv_Atoi.calls (rdOf ByteArray.empty t496 1) t504 (some q506) _ A40.out).mono ?_); rintro e w42 ⟨rfl, hb⟩; refine ⟨_, rfl, ?_⟩; have n0_ := Aside0.mk (Kd.R_below (by (with_reducible repeat (first | apply Kd.R_alloc | apply Kd.R_drewN | apply Kd.R_drew)); exact HO486.out) hb); have n1_ := Aside0.mk (Kd.R_below (by (with_reducible repeat (first | apply Kd.R_alloc | apply Kd.R_drewN | apply Kd.R_drew)); exact HO498.out) hb); have n2_ := Aside0.mk (below_step (by repeat (first | (with_reducible first | exact HB.out | apply below_alloc | apply pw_below_drewN | apply below_drew1) | exact HB.out)) hb); clear HO486; clear HO498; clear HB; have HO486 := n0_; have HO498 := n1_; have HB := n2_; clear n0_ n1_ n2_; (try clear hb); (try clear hb2); (try clear hk); (try clear hi); (try simp only [errW_none, errW_some])))
                          go_ret2
                          exact ⟨by first | rfl | (simp [errW_none, errW_some] <;> rfl) | (simp [*, errW_none, errW_some] <;> rfl), by repeat (first | (with_reducible first | exact HB.out | apply below_alloc | apply pw_below_drewN | apply below_drew1) | exact HB.out)⟩
                      · rw [if_neg c39] at H
                        exact absurd H (by simp)
                    · rw [if_neg c38] at H
                      have c38b0 : decide (1 < (t496.length : Int)) = false := decide_eq_false c38
                      have c38b1 : decide (1 < t496.length) = false := decide_eq_false (by omega)
                      clear c38
                      (first | rw [c38b0] | (simp only [i64_w, i32_w]; rw [c38b0]) | skip)
                      have H' := Aside0.mk H
                      clear H
                      go_wp2
                      go_meet
                      case rel => exact ⟨_, (a0), (by first | rfl | (simp; done) | (simp [*]; done)), H', ⟨by first | omega | exact Nat.le_refl _⟩, ⟨by (with_reducible repeat (first | apply Kd.R_alloc | apply Kd.R_drewN | apply Kd.R_drew)); exact Kd.R_mono HO498.out (fun _ hk => trivial)⟩, ⟨by repeat (first | (with_reducible first | exact HB.out | apply below_alloc | apply pw_below_drewN | apply below_drew1) | exact HB.out)⟩⟩
                  case rest =>
                    clear HC31
                    try clear c1
                    try clear c2
                    try clear p2
                    try clear c3
                    try clear p4
                    try clear q4
                    try clear hx4
                    try clear qi4
                    try clear c5
                    try clear p5
                    try clear q5
                    try clear hx5
                    try clear qi5
                    try clear c6
                    try clear c6b0
                    try clear c6b1
                    try clear p6
                    try clear c8
                    try clear c8b0
                    try clear c15
                    try clear c15b0
                    try clear c15b1
                    try clear c16
                    try clear c16b0
                    try clear c16b1
                    try clear c17
                    try clear c17b0
                    try clear c17b1
                    try clear c22
                    try clear c22b0
                    try clear c22b1
                    try clear c23
                    try clear c23b0
                    try clear c23b1
                    try clear c27
                    try clear c27b0
                    try clear c27b1
                    try clear c29
                    try clear c29b0
                    try clear c29b1
                    try clear c38
                    try clear c38b0
                    try clear c38b1
                    try clear c39
                    try clear c39b0
                    try clear c39b1
                    try clear hx487_0
                    try clear hx493_0
                    try clear hx495_0
                    try clear hx499_0
                    try clear hx503_0
                    try clear p487
                    try clear p493
                    try clear p495
                    try clear p499
                    try clear p503
                    try clear q487
                    try clear q490
                    try clear q493
                    try clear q495
                    try clear q499
                    try clear q502
                    try clear q503
                    try clear q506
                    obtain ⟨kq, x14_30, rfl, HA, HJ30, HO_13, HB⟩ := hcut
                    cases kq with
                    | zero => exact absurd HA.out (by simp [gronx_inStep.j0])
                    | succ kj30 =>
                      have H := HA.out
                      clear HA
                      simp only [gronx_inStep.j0] at H
                      have HC43 := Aside0.mk H
                      clear H
                      go_upto_region 19 with (fail)
                      go_cut [98] (fun v98 wc => ∃ (kq : Nat) (x98_42 : Bool), v98 = .bool x98_42 ∧ Aside0 (gronx_inStep.j1 kq a0 a3 t488 x14_30 t500 x98_42 = some (r1, r2)) ∧ Aside0 (kq ≤ kj30) ∧ Aside0 (Below w.heap.size w wc))
                      case first =>
                        have H := HC43.out
                        clear HC43
                        by_cases c44 : (t496.length : Int) > 1
                        · rw [if_pos c44] at H
                          have c44b0 : decide (1 < (t496.length : Int)) = true := decide_eq_true c44
                          have c44b1 : decide (1 < t496.length) = true := decide_eq_true (by omega)
                          clear c44
                          (first | rw [c44b0] | (simp only [i64_w, i32_w]; rw [c44b0]) | skip)
                          by_cases c45 : x14_30 < t500
                          · rw [if_pos c45] at H
                            have c45b0 : decide (x14_30 < t500) = true := decide_eq_true c45
                            clear c45
                            have H' := Aside0.mk H
                            clear H
                            go_wp2
                            go_meet
                            case rel => exact ⟨_, (true), (by first | rfl | (simp; done) | (simp [*]; done)), H', ⟨by have := HJ30.out; first | omega | exact Nat.le_refl _⟩, ⟨by repeat (first | (with_reducible first | exact HB.out | apply below_alloc | apply pw_below_drewN | apply below_drew1) | exact HB.out)⟩⟩
                          · rw [if_neg c45] at H
                            have c45b0 : decide (x14_30 < t500) = false := decide_eq_false c45
                            clear c45
                            by_cases c46 : 0 < (l2.length : Int)
                            · rw [if_pos c46] at H
                              have c46b0 : decide (0 < (l2.length : Int)) = true := decide_eq_true c46
                              have c46b1 : decide (0 < l2.length) = true := decide_eq_true (by omega)
                              clear c46
                              by_cases c47 : t500 < (rd l2 0)
                              · rw [if_pos c47] at H
                                have c47b0 : decide (t500 < (rd l2 0)) = true := decide_eq_true c47
                                clear c47
                                have H' := Aside0.mk H
                                clear H
                                have p507 : 0 ≤ (0 : Int) := (by omega)
                                have q507 : 0 < (l2.length : Int) := of_decide_eq_true (by first | (with_reducible assumption) | assumption)
                                obtain ⟨ad507, e507, hx507_0⟩ := Kd.at_int HR2.out 0 p507 q507
                                cases e507
                                have qi507 : (0 < l2.length) = True := eq_true (by omega)
                                (try rw [show ((0 : Int)).toNat = 0 from rfl] at hx507_0)
                                (try rw [Addr.add_zero'] at hx507_0)
                                replace hx507_0 := (HB.out.cell (World.block_lt_of_cell? w _ hx507_0)).trans hx507_0
                                replace p507 := eq_true p507
                                replace q507 := eq_true q507
                                go_wp2
                                go_meet
                                case rel => exact ⟨_, (true), (by first | rfl | (simp; done) | (simp [*]; done)), H', ⟨by have := HJ30.out; first | omega | exact Nat.le_refl _⟩, ⟨by repeat (first | (with_reducible first | exact HB.out | apply below_alloc | apply pw_below_drewN | apply below_drew1) | exact HB.out)⟩⟩
                              · rw [if_neg c47] at H
                                have c47b0 : decide (t500 < (rd l2 0)) = false := decide_eq_false c47
                                clear c47
                                by_cases c48 : 1 < (l2.length : Int)
                                · rw [if_pos c48] at H
                                  have c48b0 : decide (1 < (l2.length : Int)) = true := decide_eq_true c48
                                  have c48b1 : decide (1 < l2.length) = true := decide_eq_true (by omega)
                                  clear c48
                                  have H' := Aside0.mk H
                                  clear H
                                  have p507 : 0 ≤ (0 : Int) := (by omega)
                                  have q507 : 0 < (l2.length : Int) := of_decide_eq_true (by first | (with_reducible assumption) | assumption)
                                  obtain ⟨ad507, e507, hx507_0⟩ := Kd.at_int HR2.out 0 p507 q507
                                  cases e507
                                  have qi507 : (0 < l2.length) = True := eq_true (by omega)
                                  (try rw [show ((0 : Int)).toNat = 0 from rfl] at hx507_0)
                                  (try rw [Addr.add_zero'] at hx507_0)
                                  replace hx507_0 := (HB.out.cell (World.block_lt_of_cell? w _ hx507_0)).trans hx507_0
                                  replace p507 := eq_true p507
                                  replace q507 := eq_true q507
                                  have p508 : 0 ≤ (1 : Int) := (by omega)
                                  have q508 : 1 < (l2.length : Int) := of_decide_eq_true (by first | (with_reducible assumption) | assumption)
                                  obtain ⟨ad508, e508, hx508_0⟩ := Kd.at_int HR2.out 1 p508 q508
                                  obtain rfl : ad507 = ad508 := (by injection e508)
                                  (try simp only [show (1 : Int).toNat = 1 from rfl, Nat.reduceMul, Nat.reduceEqDiff, Go.Addr.add, ↓reduceIte] at hx508_0)
                                  have qi508 : (1 < l2.length) = True := eq_true (by omega)
                                  (try rw [show ((1 : Int)).toNat = 1 from rfl] at hx508_0)
                                  replace hx508_0 := (HB.out.cell (World.block_lt_of_cell? w _ hx508_0)).trans hx508_0
                                  replace p508 := eq_true p508
                                  replace q508 := eq_true q508
                                  go_wp2
                                  go_meet
                                  case rel => exact ⟨_, (decide (x14_30 > (rd l2 1))), (by first | rfl | (simp; done) | (simp [*]; done)), H', ⟨by have := HJ30.out; first | omega | exact Nat.le_refl _⟩, ⟨by repeat (first | (with_reducible first | exact HB.out | apply below_alloc | apply pw_below_drewN | apply below_drew1) | exact HB.out)⟩⟩
                                · rw [if_neg c48] at H
                                  exact absurd H (by simp)
                            · rw [if_neg c46] at H
                              exact absurd H (by simp)
                        · rw [if_neg c44] at H
                          have c44b0 : decide (1 < (t496.length : Int)) = false := decide_eq_false c44
                          have c44b1 : decide (1 < t496.length) = false := decide_eq_false (by omega)
                          clear c44
                          (first | rw [c44b0] | (simp only [i64_w, i32_w]; rw [c44b0]) | skip)
                          by_cases c49 : 0 < (l2.length : Int)
                          · rw [if_pos c49] at H
                            have c49b0 : decide (0 < (l2.length : Int)) = true := decide_eq_true c49
                            have c49b1 : decide (0 < l2.length) = true := decide_eq_true (by omega)
                            clear c49
                            by_cases c50 : t500 < (rd l2 0)
                            · rw [if_pos c50] at H
                              have c50b0 : decide (t500 < (rd l2 0)) = true := decide_eq_true c50
                              clear c50
                              have H' := Aside0.mk H
                              clear H
                              have p509 : 0 ≤ (0 : Int) := (by omega)
                              have q509 : 0 < (l2.length : Int) := of_decide_eq_true (by first | (with_reducible assumption) | assumption)
                              obtain ⟨ad509, e509, hx509_0⟩ := Kd.at_int HR2.out 0 p509 q509
                              cases e509
                              have qi509 : (0 < l2.length) = True := eq_true (by omega)
                              (try rw [show ((0 : Int)).toNat = 0 from rfl] at hx509_0)
                              (try rw [Addr.add_zero'] at hx509_0)
                              replace hx509_0 := (HB.out.cell (World.block_lt_of_cell? w _ hx509_0)).trans hx509_0
                              replace p509 := eq_true p509
                              replace q509 := eq_true q509
                              go_wp2
                              go_meet
                              case rel => exact ⟨_, (true), (by first | rfl | (simp; done) | (simp [*]; done)), H', ⟨by have := HJ30.out; first | omega | exact Nat.le_refl _⟩, ⟨by repeat (first | (with_reducible first | exact HB.out | apply below_alloc | apply pw_below_drewN | apply below_drew1) | exact HB.out)⟩⟩
                            · rw [if_neg c50] at H
                              have c50b0 : decide (t500 < (rd l2 0)) = false := decide_eq_false c50
                              clear c50
                              by_cases c51 : 1 < (l2.length : Int)
                              · rw [if_pos c51] at H
                                have c51b0 : decide (1 < (l2.length : Int)) = true := decide_eq_true c51
                                have c51b1 : decide (1 < l2.length) = true := decide_eq_true (by omega)
                                clear c51
                                have H' := Aside0.mk H
                                clear H
                                have p509 : 0 ≤ (0 : Int) := (by omega)
                                have q509 : 0 < (l2.length : Int) := of_decide_eq_true (by first | (with_reducible assumption) | assumption)
                                obtain ⟨ad509, e509, hx509_0⟩ := Kd.at_int HR2.out 0 p509 q509
                                cases e509
                                have qi509 : (0 < l2.length) = True := eq_true (by omega)
                                (try rw [show ((0 : Int)).toNat = 0 from rfl] at hx509_0)
                                (try rw [Addr.add_zero'] at hx509_0)
                                replace hx509_0 := (HB.out.cell (World.block_lt_of_cell? w _ hx509_0)).trans hx509_0
                                replace p509 := eq_true p509
                                replace q509 := eq_true q509
                                have p510 : 0 ≤ (1 : Int) := (by omega)
                                have q510 : 1 < (l2.length : Int) := of_decide_eq_true (by first | (with_reducible assumption) | assumption)
                                obtain ⟨ad510, e510, hx510_0⟩ := Kd.at_int HR2.out 1 p510 q510
                                obtain rfl : ad509 = ad510 := (by injection e510)
                                (try simp only [show (1 : Int).toNat = 1 from rfl, Nat.reduceMul, Nat.reduceEqDiff, Go.Addr.add, ↓reduceIte] at hx510_0)
                                have qi510 : (1 < l2.length) = True := eq_true (by omega)
                                (try rw [show ((1 : Int)).toNat = 1 from rfl] at hx510_0)
                                replace hx510_0 := (HB.out.cell (World.block_lt_of_cell? w _ hx510_0)).trans hx510_0
                                replace p510 := eq_true p510
                                replace q510 := eq_true q510
                                go_wp2
                                go_meet
                                case rel => exact ⟨_, (decide (x14_30 > (rd l2 1))), (by first | rfl | (simp; done) | (simp [*]; done)), H', ⟨by have := HJ30.out; first | omega | exact Nat.le_refl _⟩, ⟨by repeat (first | (with_reducible first | exact HB.out | apply below_alloc | apply pw_below_drewN | apply below_drew1) | exact HB.out)⟩⟩
                              · rw [if_neg c51] at H
                                exact absurd H (by simp)
                          · rw [if_neg c49] at H
                            exact absurd H (by simp)
                      case rest =>
                        clear HC43
                        try clear c1
                        try clear c2
                        try clear p2
                        try clear c3
                        try clear c4
                        try clear p4
                        try clear q4
                        try clear hx4
                        try clear qi4
                        try clear c5
                        try clear p5
                        try clear q5
                        try clear hx5
                        try clear qi5
                        try clear c6
                        try clear c6b0
                        try clear c6b1
                        try clear p6
                        try clear c8
                        try clear c8b0
                        try clear c15
                        try clear c15b0
                        try clear c15b1
                        try clear c16
                        try clear c16b0
                        try clear c16b1
                        try clear c17
                        try clear c17b0
                        try clear c17b1
                        try clear c22
                        try clear c22b0
                        try clear c22b1
                        try clear c23
                        try clear c23b0
                        try clear c23b1
                        try clear c27
                        try clear c27b0
                        try clear c27b1
                        try clear c29
                        try clear c29b0
                        try clear c29b1
                        try clear c38
                        try clear c38b0
                        try clear c38b1
                        try clear c39
                        try clear c39b0
                        try clear c39b1
                        try clear c44
                        try clear c44b0
                        try clear c44b1
                        try clear c45
                        try clear c45b0
                        try clear c46
                        try clear c46b0
                        try clear c46b1
                        try clear c47
                        try clear c47b0
                        try clear c48
                        try clear c48b0
                        try clear c48b1
                        try clear p48
                        try clear q48
                        try clear hx48
                        try clear qi48
                        try clear c49
                        try clear c49b0
                        try clear c49b1
                        try clear p49
                        try clear q49
                        try clear hx49
                        try clear qi49
                        try clear c50
                        try clear c50b0
                        try clear p50
                        try clear q50
                        try clear hx50
                        try clear qi50
                        try clear c51
                        try clear c51b0
                        try clear c51b1
                        try clear p51
                        try clear q51
                        try clear hx51
                        try clear qi51
                        try clear hx487_0
                        try clear hx493_0
                        try clear hx495_0
                        try clear hx499_0
                        try clear hx503_0
                        try clear hx507_0
                        try clear hx508_0
                        try clear hx509_0
                        try clear hx510_0
                        try clear p2
                        try clear p4
                        try clear p487
                        try clear p493
                        try clear p495
                        try clear p499
                        try clear p5
                        try clear p503
                        try clear p507
                        try clear p508
                        try clear p509
                        try clear p510
                        try clear p6
                        try clear q4
                        try clear q487
                        try clear q490
                        try clear q493
                        try clear q495
                        try clear q499
                        try clear q5
                        try clear q502
                        try clear q503
                        try clear q506
                        try clear q507
                        try clear q508
                        try clear q509
                        try clear q510
                        obtain ⟨kq, x98_42, rfl, HA, HJ42, HB⟩ := hcut
                        cases kq with
                        | zero => exact absurd HA.out (by simp [gronx_inStep.j1])
                        | succ kj42 =>
                          have H := HA.out
                          clear HA
                          simp only [gronx_inStep.j1] at H
                          by_cases c52 : x98_42 = true
                          · subst c52
                            have H1 : ((errors_New.f (⟨#[115, 116, 101, 112, 32, 111, 117, 116, 32, 111, 102, 32, 98, 111, 117, 110, 100, 115, 40, 44, 32, 41]⟩ : ByteArray)).bind fun t511 => (some (false, t511))) = some (r1, r2) := by rw [if_pos rfl] at H; exact H
                            clear H
                            have H := H1
                            clear H1
                            replace H := Option.bind_eq_some_iff.mp H
                            obtain ⟨t511, A530, H⟩ := H
                            replace H : (some (false, t511)) = some (r1, r2) := H
                            have A53 := Aside0.mk A530
                            clear A530
                            simp only [Option.some.injEq, Prod.mk.injEq] at H
                            obtain ⟨rfl, rfl⟩ := H
                            go_wp2_with (first | ((with_reducible refine gate_callee (f := 51) rfl ?_); refine goesL_ (some 99) rfl rfl Tryz.func51 (by kernel_rfl) rfl #[.string (⟨#[115, 116, 101, 112, 32, 111, 117, 116, 32, 111, 102, 32, 98, 111, 117, 110, 100, 115, 40, 44, 32, 41]⟩ : ByteArray)] rfl (by (try simp only [List.map_toArray, List.map_cons, List.map_nil]); first | done | rfl | (simp only [List.length_drop, List.length_take]; rfl)) ?_; (with_reducible refine (errors_New.calls (⟨#[115, 116, 101, 112, 32, 111, 117, 116, 32, 111, 102, 32, 98, 111, 117, 110, 100, 115, 40, 44, 32, 41]⟩ : ByteArray) t511 _ A53.out).mono ?_); rintro e w54 ⟨rfl, hb⟩; refine ⟨_, rfl, ?_⟩; have n0_ := Aside0.mk (below_step (by repeat (first | (with_reducible first | exact HB.out | apply below_alloc | apply pw_below_drewN | apply below_drew1) | exact HB.out)) hb); clear HB; have HB := n0_; clear n0_; (try clear hb); (try clear hb2); (try clear hk); (try clear hi); (try simp only [errW_none, errW_some])))
                            go_ret2
                            exact ⟨by first | rfl | (simp [errW_none, errW_some] <;> rfl) | (simp [*, errW_none, errW_some] <;> rfl), by repeat (first | (with_reducible first | exact HB.out | apply below_alloc | apply pw_below_drewN | apply below_drew1) | exact HB.out)⟩
                          · replace c52 := Bool.eq_false_iff.mpr c52
                            subst c52
                            have H1 : (if a3 = true then (if t500 = 7 then (gronx_inStep.j2 kj42 a0 t488 x14_30 t500 (x14_30 != 7)) else (gronx_inStep.j2 kj42 a0 t488 x14_30 t500 false)) else ((gronx_inStepRange.f kj42 a0 t500 x14_30 t488).bind fun t515 => (some (t515, none)))) = some (r1, r2) := by rw [if_neg (show ¬ (false = true) by decide)] at H; exact H
                            clear H
                            have H := H1
                            clear H1
                            by_cases c55 : a3 = true
                            · subst c55
                              have H1 : (if t500 = 7 then (gronx_inStep.j2 kj42 a0 t488 x14_30 t500 (x14_30 != 7)) else (gronx_inStep.j2 kj42 a0 t488 x14_30 t500 false)) = some (r1, r2) := by rw [if_pos rfl] at H; exact H
                              clear H
                              have H := H1
                              clear H1
                              have HC56 := Aside0.mk H
                              clear H
                              go_upto_region 22 with (fail)
                              go_cut [106] (fun v106 wc => ∃ (kq : Nat) (x106_55 : Bool), v106 = .bool x106_55 ∧ Aside0 (gronx_inStep.j2 kq a0 t488 x14_30 t500 x106_55 = some (r1, r2)) ∧ Aside0 (kq ≤ kj42) ∧ Aside0 (Below w.heap.size w wc))
                              case first =>
                                have H := HC56.out
                                clear HC56
                                by_cases c57 : t500 = 7
                                · rw [if_pos c57] at H
                                  have c57b0 : (t500 == 7) = true := beq_iff_eq.mpr c57
                                  have c57b1 : (t500 != 7) = false := bne_eq_false_iff_eq.mpr c57
                                  clear c57
                                  (first | rw [c57b0] | (simp only [i64_w, i32_w]; rw [c57b0]) | skip)
                                  have H' := Aside0.mk H
                                  clear H
                                  go_wp2
                                  go_meet
                                  case rel => exact ⟨_, ((x14_30 != 7)), (by first | rfl | (simp; done) | (simp [*]; done)), H', ⟨by have := HJ30.out; have := HJ42.out; first | omega | exact Nat.le_refl _⟩, ⟨by repeat (first | (with_reducible first | exact HB.out | apply below_alloc | apply pw_below_drewN | apply below_drew1) | exact HB.out)⟩⟩
                                · rw [if_neg c57] at H
                                  have c57b0 : (t500 == 7) = false := beq_eq_false_iff_ne.mpr c57
                                  have c57b1 : (t500 != 7) = true := bne_iff_ne.mpr c57
                                  (first | rw [c57b0] | (simp only [i64_w, i32_w]; rw [c57b0]) | skip)
                                  have H' := Aside0.mk H
                                  clear H
                                  go_wp2
                                  go_meet
                                  case rel => exact ⟨_, (false), (by first | rfl | (simp; done) | (simp [*]; done)), H', ⟨by have := HJ30.out; have := HJ42.out; first | omega | exact Nat.le_refl _⟩, ⟨by repeat (first | (with_reducible first | exact HB.out | apply below_alloc | apply pw_below_drewN | apply below_drew1) | exact HB.out)⟩⟩
                              case rest =>
                                clear HC56
                                try clear c1
                                try clear c2
                                try clear p2
                                try clear c3
                                try clear c4
                                try clear p4
                                try clear q4
                                try clear hx4
                                try clear qi4
                                try clear c5
                                try clear p5
                                try clear q5
                                try clear hx5
                                try clear qi5
                                try clear c6
                                try clear c6b0
                                try clear c6b1
                                try clear p6
                                try clear c8
                                try clear c8b0
                                try clear c15
                                try clear c15b0
                                try clear c15b1
                                try clear c16
                                try clear c16b0
                                try clear c16b1
                                try clear c17
                                try clear c17b0
                                try clear c17b1
                                try clear c22
                                try clear c22b0
                                try clear c22b1
                                try clear c23
                                try clear c23b0
                                try clear c23b1
                                try clear c27
                                try clear c27b0
                                try clear c27b1
                                try clear c29
                                try clear c29b0
                                try clear c29b1
                                try clear c38
                                try clear c38b0
                                try clear c38b1
                                try clear c39
                                try clear c39b0
                                try clear c39b1
                                try clear c44
                                try clear c44b0
                                try clear c44b1
                                try clear c45
                                try clear c45b0
                                try clear c46
                                try clear c46b0
                                try clear c46b1
                                try clear c47
                                try clear c47b0
                                try clear c48
                                try clear c48b0
                                try clear c48b1
                                try clear p48
                                try clear q48
                                try clear hx48
                                try clear qi48
                                try clear c49
                                try clear c49b0
                                try clear c49b1
                                try clear p49
                                try clear q49
                                try clear hx49
                                try clear qi49
                                try clear c50
                                try clear c50b0
                                try clear p50
                                try clear q50
                                try clear hx50
                                try clear qi50
                                try clear c51
                                try clear c51b0
                                try clear c51b1
                                try clear p51
                                try clear q51
                                try clear hx51
                                try clear qi51
                                try clear c52
                                try clear c54
                                try clear c55
                                try clear c57
                                try clear c57b0
                                try clear c57b1
                                try clear hx487_0
                                try clear hx493_0
                                try clear hx495_0
                                try clear hx499_0
                                try clear hx503_0
                                try clear hx507_0
                                try clear hx508_0
                                try clear hx509_0
                                try clear hx510_0
                                try clear p2
                                try clear p4
                                try clear p48
                                try clear p487
                                try clear p49
                                try clear p493
                                try clear p495
                                try clear p499
                                try clear p5
                                try clear p50
                                try clear p503
                                try clear p507
                                try clear p508
                                try clear p509
                                try clear p51
                                try clear p510
                                try clear p6
                                try clear q4
                                try clear q48
                                try clear q487
                                try clear q49
                                try clear q490
                                try clear q493
                                try clear q495
                                try clear q499
                                try clear q5
                                try clear q50
                                try clear q502
                                try clear q503
                                try clear q506
                                try clear q507
                                try clear q508
                                try clear q509
                                try clear q51
                                try clear q510
                                obtain ⟨kq, x106_55, rfl, HA, HJ55, HB⟩ := hcut
                                cases kq with
                                | zero => exact absurd HA.out (by simp [gronx_inStep.j2])
                                | succ kj55 =>
                                  have H := HA.out
                                  clear HA
                                  simp only [gronx_inStep.j2] at H
                                  have HC58 := Aside0.mk H
                                  clear H
                                  go_upto_if 106 with (fail)
                                  go_cut [15] (fun v15 wc => ∃ (kq : Nat) (x15_57 : Int), v15 = .int .i64 x15_57 ∧ Aside0 (gronx_inStep.j3 kq a0 t488 x14_30 x15_57 = some (r1, r2)) ∧ Aside0 (kq ≤ kj55) ∧ Aside0 (Below w.heap.size w wc))
                                  case first =>
                                    have H := HC58.out
                                    clear HC58
                                    by_cases c59 : x106_55 = true
                                    · subst c59
                                      have H1 : (gronx_inStep.j3 kj55 a0 t488 x14_30 0) = some (r1, r2) := by rw [if_pos rfl] at H; exact H
                                      clear H
                                      have H := H1
                                      clear H1
                                      have H' := Aside0.mk H
                                      clear H
                                      go_wp2
                                      go_meet
                                      case rel => exact ⟨_, (0), (by first | rfl | (simp; done) | (simp [*]; done)), H', ⟨by have := HJ30.out; have := HJ42.out; have := HJ55.out; first | omega | exact Nat.le_refl _⟩, ⟨by repeat (first | (with_reducible first | exact HB.out | apply below_alloc | apply pw_below_drewN | apply below_drew1) | exact HB.out)⟩⟩
                                    · replace c59 := Bool.eq_false_iff.mpr c59
                                      subst c59
                                      have H1 : (gronx_inStep.j3 kj55 a0 t488 x14_30 t500) = some (r1, r2) := by rw [if_neg (show ¬ (false = true) by decide)] at H; exact H
                                      clear H
                                      have H := H1
                                      clear H1
                                      have H' := Aside0.mk H
                                      clear H
                                      go_wp2
                                      go_meet
                                      case rel => exact ⟨_, (t500), (by first | rfl | (simp; done) | (simp [*]; done)), H', ⟨by have := HJ30.out; have := HJ42.out; have := HJ55.out; first | omega | exact Nat.le_refl _⟩, ⟨by repeat (first | (with_reducible first | exact HB.out | apply below_alloc | apply pw_below_drewN | apply below_drew1) | exact HB.out)⟩⟩
                                  case rest =>
                                    clear HC58
                                    try clear c1
                                    try clear c2
                                    try clear p2
                                    try clear c3
                                    try clear c4
                                    try clear p4
                                    try clear q4
                                    try clear hx4
                                    try clear qi4
                                    try clear c5
                                    try clear p5
                                    try clear q5
                                    try clear hx5
                                    try clear qi5
                                    try clear c6
                                    try clear c6b0
                                    try clear c6b1
                                    try clear p6
                                    try clear c8
                                    try clear c8b0
                                    try clear c15
                                    try clear c15b0
                                    try clear c15b1
                                    try clear c16
                                    try clear c16b0
                                    try clear c16b1
                                    try clear c17
                                    try clear c17b0
                                    try clear c17b1
                                    try clear c22
                                    try clear c22b0
                                    try clear c22b1
                                    try clear c23
                                    try clear c23b0
                                    try clear c23b1
                                    try clear c27
                                    try clear c27b0
                                    try clear c27b1
                                    try clear c29
                                    try clear c29b0
                                    try clear c29b1
                                    try clear c38
                                    try clear c38b0
                                    try clear c38b1
                                    try clear c39
                                    try clear c39b0
                                    try clear c39b1
                                    try clear c44
                                    try clear c44b0
                                    try clear c44b1
                                    try clear c45
                                    try clear c45b0
                                    try clear c46
                                    try clear c46b0
                                    try clear c46b1
                                    try clear c47
                                    try clear c47b0
                                    try clear c48
                                    try clear c48b0
                                    try clear c48b1
                                    try clear p48
                                    try clear q48
                                    try clear hx48
                                    try clear qi48
                                    try clear c49
                                    try clear c49b0
                                    try clear c49b1
                                    try clear p49
                                    try clear q49
                                    try clear hx49
                                    try clear qi49
                                    try clear c50
                                    try clear c50b0
                                    try clear p50
                                    try clear q50
                                    try clear hx50
                                    try clear qi50
                                    try clear c51
                                    try clear c51b0
                                    try clear c51b1
                                    try clear p51
                                    try clear q51
                                    try clear hx51
                                    try clear qi51
                                    try clear c52
                                    try clear c54
                                    try clear c55
                                    try clear c57
                                    try clear c57b0
                                    try clear c57b1
                                    try clear c59
                                    try clear hx487_0
                                    try clear hx493_0
                                    try clear hx495_0
                                    try clear hx499_0
                                    try clear hx503_0
                                    try clear hx507_0
                                    try clear hx508_0
                                    try clear hx509_0
                                    try clear hx510_0
                                    try clear p2
                                    try clear p4
                                    try clear p48
                                    try clear p487
                                    try clear p49
                                    try clear p493
                                    try clear p495
                                    try clear p499
                                    try clear p5
                                    try clear p50
                                    try clear p503
                                    try clear p507
                                    try clear p508
                                    try clear p509
                                    try clear p51
                                    try clear p510
                                    try clear p6
                                    try clear q4
                                    try clear q48
                                    try clear q487
                                    try clear q49
                                    try clear q490
                                    try clear q493
                                    try clear q495
                                    try clear q499
                                    try clear q5
                                    try clear q50
                                    try clear q502
                                    try clear q503
                                    try clear q506
                                    try clear q507
                                    try clear q508
                                    try clear q509
                                    try clear q51
                                    try clear q510
                                    obtain ⟨kq, x15_57, rfl, HA, HJ57, HB⟩ := hcut
                                    cases kq with
                                    | zero => exact absurd HA.out (by simp [gronx_inStep.j3])
                                    | succ kj57 =>
                                      have H := HA.out
                                      clear HA
                                      simp only [gronx_inStep.j3] at H
                                      by_cases c60 : a0 = 0
                                      · rw [if_pos c60] at H
                                        have c60b0 : (a0 == 0) = true := beq_iff_eq.mpr c60
                                        have c60b1 : (a0 != 0) = false := bne_eq_false_iff_eq.mpr c60
                                        clear c60
                                        replace H := Option.bind_eq_some_iff.mp H
                                        obtain ⟨t512, A610, H⟩ := H
                                        replace H : (if t512 = true then (some (true, none)) else ((gronx_inStepRange.f kj57 7 x15_57 x14_30 t488).bind fun t513 => (some (t513, none)))) = some (r1, r2) := H
                                        have A61 := Aside0.mk A610
                                        clear A610
                                        by_cases c62 : t512 = true
                                        · subst c62
                                          have H1 : (some (true, none)) = some (r1, r2) := by rw [if_pos rfl] at H; exact H
                                          clear H
                                          have H := H1
                                          clear H1
                                          simp only [Option.some.injEq, Prod.mk.injEq] at H
                                          obtain ⟨rfl, rfl⟩ := H
                                          go_wp2_with (first | ((with_reducible refine gate_callee (f := 112) rfl ?_); refine goesL_ (some 112) rfl rfl Tryz.func112 (by kernel_rfl) rfl #[.int .i64 0, .int .i64 x15_57, .int .i64 x14_30, .int .i64 t488] rfl (by (try simp only [List.map_toArray, List.map_cons, List.map_nil]); first | done | rfl | (simp only [List.length_drop, List.length_take]; rfl)) ?_; (with_reducible refine (gronx_inStepRange.calls kj57 0 x15_57 x14_30 t488 true _ A61.out).mono ?_); rintro e w' ⟨rfl, ⟨nd, rfl⟩⟩; refine ⟨_, rfl, ?_⟩))
                                          go_ret2
                                          exact ⟨by first | rfl | (simp [errW_none, errW_some] <;> rfl) | (simp [*, errW_none, errW_some] <;> rfl), by repeat (first | (with_reducible first | exact HB.out | apply below_alloc | apply pw_below_drewN | apply below_drew1) | exact HB.out)⟩
                                        · replace c62 := Bool.eq_false_iff.mpr c62
                                          subst c62
                                          have H1 : ((gronx_inStepRange.f kj57 7 x15_57 x14_30 t488).bind fun t513 => (some (t513, none))) = some (r1, r2) := by rw [if_neg (show ¬ (false = true) by decide)] at H; exact H
                                          clear H
                                          have H := H1
                                          clear H1
                                          replace H := Option.bind_eq_some_iff.mp H
                                          obtain ⟨t513, A630, H⟩ := H
                                          replace H : (some (t513, none)) = some (r1, r2) := H
                                          have A63 := Aside0.mk A630
                                          clear A630
                                          simp only [Option.some.injEq, Prod.mk.injEq] at H
                                          obtain ⟨rfl, rfl⟩ := H
                                          go_wp2_with (first | ((with_reducible refine gate_callee (f := 112) rfl ?_); refine goesL_ (some 112) rfl rfl Tryz.func112 (by kernel_rfl) rfl #[.int .i64 0, .int .i64 x15_57, .int .i64 x14_30, .int .i64 t488] rfl (by (try simp only [List.map_toArray, List.map_cons, List.map_nil]); first | done | rfl | (simp only [List.length_drop, List.length_take]; rfl)) ?_; (with_reducible refine (gronx_inStepRange.calls kj57 0 x15_57 x14_30 t488 false _ A61.out).mono ?_); rintro e w' ⟨rfl, ⟨nd, rfl⟩⟩; refine ⟨_, rfl, ?_⟩) | (go_at_call 112; (with_reducible refine (gronx_inStepRange.calls kj57 7 x15_57 x14_30 t488 t513 _ A63.out).mono ?_); rintro e w' ⟨rfl, ⟨nd, rfl⟩⟩))
                                          go_ret2
                                          exact ⟨by first | rfl | (simp [errW_none, errW_some] <;> rfl) | (simp [*, errW_none, errW_some] <;> rfl), by repeat (first | (with_reducible first | exact HB.out | apply below_alloc | apply pw_below_drewN | apply below_drew1) | exact HB.out)⟩
                                      · rw [if_neg c60] at H
                                        have c60b0 : (a0 == 0) = false := beq_eq_false_iff_ne.mpr c60
                                        have c60b1 : (a0 != 0) = true := bne_iff_ne.mpr c60
                                        replace H := Option.bind_eq_some_iff.mp H
                                        obtain ⟨t514, A640, H⟩ := H
                                        replace H : (some (t514, none)) = some (r1, r2) := H
                                        have A64 := Aside0.mk A640
                                        clear A640
                                        simp only [Option.some.injEq, Prod.mk.injEq] at H
                                        obtain ⟨rfl, rfl⟩ := H
                                        go_wp2_with (first | ((with_reducible refine gate_callee (f := 112) rfl ?_); refine goesL_ (some 123) rfl rfl Tryz.func112 (by kernel_rfl) rfl #[.int .i64 a0, .int .i64 x15_57, .int .i64 x14_30, .int .i64 t488] rfl (by (try simp only [List.map_toArray, List.map_cons, List.map_nil]); first | done | rfl | (simp only [List.length_drop, List.length_take]; rfl)) ?_; (with_reducible refine (gronx_inStepRange.calls kj57 a0 x15_57 x14_30 t488 t514 _ A64.out).mono ?_); rintro e w' ⟨rfl, ⟨nd, rfl⟩⟩; refine ⟨_, rfl, ?_⟩))
                                        go_ret2
                                        exact ⟨by first | rfl | (simp [errW_none, errW_some] <;> rfl) | (simp [*, errW_none, errW_some] <;> rfl), by repeat (first | (with_reducible first | exact HB.out | apply below_alloc | apply pw_below_drewN | apply below_drew1) | exact HB.out)⟩
                            · replace c55 := Bool.eq_false_iff.mpr c55
                              subst c55
                              have H1 : ((gronx_inStepRange.f kj42 a0 t500 x14_30 t488).bind fun t515 => (some (t515, none))) = some (r1, r2) := by rw [if_neg (show ¬ (false = true) by decide)] at H; exact H
                              clear H
                              have H := H1
                              clear H1
                              replace H := Option.bind_eq_some_iff.mp H
                              obtain ⟨t515, A650, H⟩ := H
                              replace H : (some (t515, none)) = some (r1, r2) := H
                              have A65 := Aside0.mk A650
                              clear A650
                              simp only [Option.some.injEq, Prod.mk.injEq] at H
                              obtain ⟨rfl, rfl⟩ := H
                              go_wp2_with (first | ((with_reducible refine gate_callee (f := 112) rfl ?_); refine goesL_ (some 123) rfl rfl Tryz.func112 (by kernel_rfl) rfl #[.int .i64 a0, .int .i64 t500, .int .i64 x14_30, .int .i64 t488] rfl (by (try simp only [List.map_toArray, List.map_cons, List.map_nil]); first | done | rfl | (simp only [List.length_drop, List.length_take]; rfl)) ?_; (with_reducible refine (gronx_inStepRange.calls kj42 a0 t500 x14_30 t488 t515 _ A65.out).mono ?_); rintro e w' ⟨rfl, ⟨nd, rfl⟩⟩; refine ⟨_, rfl, ?_⟩))
                              go_ret2
                              exact ⟨by first | rfl | (simp [errW_none, errW_some] <;> rfl) | (simp [*, errW_none, errW_some] <;> rfl), by repeat (first | (with_reducible first | exact HB.out | apply below_alloc | apply pw_below_drewN | apply below_drew1) | exact HB.out)⟩
                · have H1 : (some (false, some q502)) = some (r1, r2) := by rw [if_neg (show ¬ (some q502).isNone = true by simp)] at H; exact H
                  clear H
                  have H := H1
                  clear H1
                  try simp only [errW_none, errW_some]
                  simp only [Option.some.injEq, Prod.mk.injEq] at H
                  obtain ⟨rfl, rfl⟩ := H
                  go_enter Tryz.func86, Tryz.ntmps86
                  go_wp2_with (first | ((with_reducible refine gate_callee (f := 54) rfl ?_); refine goesL_ (some 17) rfl rfl Tryz.func54 (by kernel_rfl) rfl #[.string a1, .string (⟨#[47]⟩ : ByteArray)] rfl (by (try simp only [List.map_toArray, List.map_cons, List.map_nil]); first | done | rfl | (simp only [List.length_drop, List.length_take]; rfl)) ?_; (with_reducible refine (gronx_zzSplit.calls k a1 (⟨#[47]⟩ : ByteArray) t484 _ A5.out).mono ?_); rintro e w66 ⟨v485, rfl, ho0, hb⟩; refine ⟨_, rfl, ?_⟩; have n0_ := Aside0.mk (Kd.R_lower ho0 (below_size (by repeat (first | (with_reducible first | exact HB.out | apply below_alloc | apply pw_below_drewN | apply below_drew1) | exact HB.out)))); have n1_ := Aside0.mk (below_step (by repeat (first | (with_reducible first | exact HB.out | apply below_alloc | apply pw_below_drewN | apply below_drew1) | exact HB.out)) hb); clear HB; have HO486 := n0_; have HB := n1_; clear n0_ n1_; (try clear hb); (try clear hb2); (try clear hk); (try clear hi); (try clear ho0); obtain ⟨Ao67, co67, eo67⟩ := Kd.R_slice HO486.out; subst eo67; have p487 : 0 ≤ (1 : Int) := (by omega); have q487 : 1 < (t484.length : Int) := of_decide_eq_true (by first | (with_reducible assumption) | assumption); obtain ⟨ad487, e487, hx487_0⟩ := Kd.at_string (Kd.R_reads' HO486.out).2.2 1 p487 q487; cases e487; (try simp only [show (1 : Int).toNat = 1 from rfl, Nat.reduceMul, Nat.reduceEqDiff, Go.Addr.add, ↓reduceIte] at hx487_0); have qi487 : (1 < t484.length) = True := eq_true (by omega); (try rw [show ((1 : Int)).toNat = 1 from rfl] at hx487_0); replace p487 := eq_true p487; replace q487 := eq_true q487) | ((with_reducible refine gate_callee (f := 88) rfl ?_); refine goesL_ (some 22) rfl rfl Tryz.func88 (by kernel_rfl) rfl #[.string (rdOf ByteArray.empty t484 1)] rfl (by (try simp only [List.map_toArray, List.map_cons, List.map_nil]); first | done | rfl | (simp only [List.length_drop, List.length_take]; rfl)) ?_; (with_reducible refine (strconv_Atoi.calls (rdOf ByteArray.empty t484 1) t488 none _ A7.out).mono ?_); rintro e w68 ⟨rfl, hb⟩; refine ⟨_, rfl, ?_⟩; have n0_ := Aside0.mk (Kd.R_below (by (with_reducible repeat (first | apply Kd.R_alloc | apply Kd.R_drewN | apply Kd.R_drew)); exact HO486.out) hb); have n1_ := Aside0.mk (below_step (by repeat (first | (with_reducible first | exact HB.out | apply below_alloc | apply pw_below_drewN | apply below_drew1) | exact HB.out)) hb); clear HO486; clear HB; have HO486 := n0_; have HB := n1_; clear n0_ n1_; (try clear hb); (try clear hb2); (try clear hk); (try clear hi); (try simp only [errW_none, errW_some])) | ((with_reducible refine gate_callee (f := 80) rfl ?_); refine goesL_ (some 32) rfl rfl Tryz.func80 (by kernel_rfl) rfl #[.string a1, .string (⟨#[42, 47]⟩ : ByteArray)] rfl (by (try simp only [List.map_toArray, List.map_cons, List.map_nil]); first | done | rfl | (simp only [List.length_drop, List.length_take]; rfl)) ?_; (with_reducible refine (gronx_zzIndex.calls k a1 (⟨#[42, 47]⟩ : ByteArray) t492 _ A14.out).mono ?_); rintro e w' ⟨rfl, ⟨nd, rfl⟩⟩; refine ⟨_, rfl, ?_⟩) | ((with_reducible refine gate_callee (f := 80) rfl ?_); refine goesL_ (some 43) rfl rfl Tryz.func80 (by kernel_rfl) rfl #[.string a1, .string (⟨#[48, 47]⟩ : ByteArray)] rfl (by (try simp only [List.map_toArray, List.map_cons, List.map_nil]); first | done | rfl | (simp only [List.length_drop, List.length_take]; rfl)) ?_; (with_reducible refine (gronx_zzIndex.calls k a1 (⟨#[48, 47]⟩ : ByteArray) t494 _ A21.out).mono ?_); rintro e w' ⟨rfl, ⟨nd, rfl⟩⟩; refine ⟨_, rfl, ?_⟩; have p495 : 0 ≤ (0 : Int) := (by omega); have q495 : 0 < (t484.length : Int) := of_decide_eq_true (by first | (with_reducible assumption) | assumption); obtain ⟨ad495, e495, hx495_0⟩ := Kd.at_string (Kd.R_reads' HO486.out).2.2 0 p495 q495; obtain rfl : ad487 = ad495 := (by injection e495); have qi495 : (0 < t484.length) = True := eq_true (by omega); (try rw [show ((0 : Int)).toNat = 0 from rfl] at hx495_0); (try rw [Addr.add_zero'] at hx495_0); replace p495 := eq_true p495; replace q495 := eq_true q495) | ((with_reducible refine gate_callee (f := 54) rfl ?_); refine goesL_ (some 52) rfl rfl Tryz.func54 (by kernel_rfl) rfl #[.string (rdOf ByteArray.empty t484 0), .string (⟨#[45]⟩ : ByteArray)] rfl (by (try simp only [List.map_toArray, List.map_cons, List.map_nil]); first | done | rfl | (simp only [List.length_drop, List.length_take]; rfl)) ?_; (with_reducible refine (gronx_zzSplit.calls k (rdOf ByteArray.empty t484 0) (⟨#[45]⟩ : ByteArray) t496 _ A28.out).mono ?_); rintro e w69 ⟨v497, rfl, ho0, hb⟩; refine ⟨_, rfl, ?_⟩; have n0_ := Aside0.mk (Kd.R_elder' (by (with_reducible repeat (first | apply Kd.R_alloc | apply Kd.R_drewN | apply Kd.R_drew)); exact HO486.out) (Kd.R_base ho0) hb); have n1_ := Aside0.mk (Kd.R_lower (Kd.R_new' ho0 (Kd.R_lt (by (with_reducible repeat (first | apply Kd.R_alloc | apply Kd.R_drewN | apply Kd.R_drew)); exact HO486.out))) (below_size (by repeat (first | (with_reducible first | exact HB.out | apply below_alloc | apply pw_below_drewN | apply below_drew1) | exact HB.out)))); have n2_ := Aside0.mk (below_step (by repeat (first | (with_reducible first | exact HB.out | apply below_alloc | apply pw_below_drewN | apply below_drew1) | exact HB.out)) hb); clear HO486; clear HB; have HO486 := n0_; have HO498 := n1_; have HB := n2_; clear n0_ n1_ n2_; (try clear hb); (try clear hb2); (try clear hk); (try clear hi); (try clear ho0); obtain ⟨Ao70, co70, eo70⟩ := Kd.R_slice HO498.out; subst eo70; have p499 : 0 ≤ (0 : Int) := (by omega); have q499 : 0 < (t496.length : Int) := of_decide_eq_true (by first | (with_reducible assumption) | assumption); obtain ⟨ad499, e499, hx499_0⟩ := Kd.at_string (Kd.R_reads' HO498.out).2.2 0 p499 q499; cases e499; have qi499 : (0 < t496.length) = True := eq_true (by omega); (try rw [show ((0 : Int)).toNat = 0 from rfl] at hx499_0); (try rw [Addr.add_zero'] at hx499_0); replace p499 := eq_true p499; replace q499 := eq_true q499) | ((with_reducible refine gate_callee (f := 88) rfl ?_); refine goesL_ (some 58) rfl rfl Tryz.func88 (by kernel_rfl) rfl #[.string (rdOf ByteArray.empty t496 0)] rfl (by (try simp only [List.map_toArray, List.map_cons, List.map_nil]); first | done | rfl | (simp only [List.length_drop, List.length_take]; rfl)) ?_; (with_reducible refine (strconv_Atoi.calls (rdOf ByteArray.empty t496 0) t500 (some q502) _ A30.out).mono ?_); rintro e w71 ⟨rfl, hb⟩; refine ⟨_, rfl, ?_⟩; have n0_ := Aside0.mk (Kd.R_below (by (with_reducible repeat (first | apply Kd.R_alloc | apply Kd.R_drewN | apply Kd.R_drew)); exact HO486.out) hb); have n1_ := Aside0.mk (Kd.R_below (by (with_reducible repeat (first | apply Kd.R_alloc | apply Kd.R_drewN | apply Kd.R_drew)); exact HO498.out) hb); have n2_ := Aside0.mk (below_step (by repeat (first | (with_reducible first | exact HB.out | apply below_alloc | apply pw_below_drewN | apply below_drew1) | exact HB.out)) hb); clear HO486; clear HO498; clear HB; have HO486 := n0_; have HO498 := n1_; have HB := n2_; clear n0_ n1_ n2_; (try clear hb); (try clear hb2); (try clear hk); (try clear hi); (try simp only [errW_none, errW_some])))
                  go_ret2
                  exact ⟨by first | rfl | (simp [errW_none, errW_some] <;> rfl) | (simp [*, errW_none, errW_some] <;> rfl), by repeat (first | (with_reducible first | exact HB.out | apply below_alloc | apply pw_below_drewN | apply below_drew1) | exact HB.out)⟩
              · rw [if_neg c29] at H
                exact absurd H (by simp)
            · rw [if_neg c27] at H
              exact absurd H (by simp)
    · have H1 : (some (false, some q490)) = some (r1, r2) := by rw [if_neg (show ¬ (some q490).isNone = true by simp)] at H; exact H
      clear H
      have H := H1
      clear H1
      try simp only [errW_none, errW_some]
      simp only [Option.some.injEq, Prod.mk.injEq] at H
      obtain ⟨rfl, rfl⟩ := H
      go_enter Tryz.func86, Tryz.ntmps86
      go_wp2_with (first | ((with_reducible refine gate_callee (f := 54) rfl ?_); refine goesL_ (some 17) rfl rfl Tryz.func54 (by kernel_rfl) rfl #[.string a1, .string (⟨#[47]⟩ : ByteArray)] rfl (by (try simp only [List.map_toArray, List.map_cons, List.map_nil]); first | done | rfl | (simp only [List.length_drop, List.length_take]; rfl)) ?_; (with_reducible refine (gronx_zzSplit.calls k a1 (⟨#[47]⟩ : ByteArray) t484 _ A5.out).mono ?_); rintro e w72 ⟨v485, rfl, ho0, hb⟩; refine ⟨_, rfl, ?_⟩; have n0_ := Aside0.mk (Kd.R_lower ho0 (below_size (by repeat (first | (with_reducible first | exact HB.out | apply below_alloc | apply pw_below_drewN | apply below_drew1) | exact HB.out)))); have n1_ := Aside0.mk (below_step (by repeat (first | (with_reducible first | exact HB.out | apply below_alloc | apply pw_below_drewN | apply below_drew1) | exact HB.out)) hb); clear HB; have HO486 := n0_; have HB := n1_; clear n0_ n1_; (try clear hb); (try clear hb2); (try clear hk); (try clear hi); (try clear ho0); obtain ⟨Ao73, co73, eo73⟩ := Kd.R_slice HO486.out; subst eo73; have p487 : 0 ≤ (1 : Int) := (by omega); have q487 : 1 < (t484.length : Int) := of_decide_eq_true (by first | (with_reducible assumption) | assumption); obtain ⟨ad487, e487, hx487_0⟩ := Kd.at_string (Kd.R_reads' HO486.out).2.2 1 p487 q487; cases e487; (try simp only [show (1 : Int).toNat = 1 from rfl, Nat.reduceMul, Nat.reduceEqDiff, Go.Addr.add, ↓reduceIte] at hx487_0); have qi487 : (1 < t484.length) = True := eq_true (by omega); (try rw [show ((1 : Int)).toNat = 1 from rfl] at hx487_0); replace p487 := eq_true p487; replace q487 := eq_true q487) | ((with_reducible refine gate_callee (f := 88) rfl ?_); refine goesL_ (some 22) rfl rfl Tryz.func88 (by kernel_rfl) rfl #[.string (rdOf ByteArray.empty t484 1)] rfl (by (try simp only [List.map_toArray, List.map_cons, List.map_nil]); first | done | rfl | (simp only [List.length_drop, List.length_take]; rfl)) ?_; (with_reducible refine (strconv_Atoi.calls (rdOf ByteArray.empty t484 1) t488 (some q490) _ A7.out).mono ?_); rintro e w74 ⟨rfl, hb⟩; refine ⟨_, rfl, ?_⟩; have n0_ := Aside0.mk (Kd.R_below (by (with_reducible repeat (first | apply Kd.R_alloc | apply Kd.R_drewN | apply Kd.R_drew)); exact HO486.out) hb); have n1_ := Aside0.mk (below_step (by repeat (first | (with_reducible first | exact HB.out | apply below_alloc | apply pw_below_drewN | apply below_drew1) | exact HB.out)) hb); clear HO486; clear HB; have HO486 := n0_; have HB := n1_; clear n0_ n1_; (try clear hb); (try clear hb2); (try clear hk); (try clear hi); (try simp only [errW_none, errW_some])))
      go_ret2
      exact ⟨by first | rfl | (simp [errW_none, errW_some] <;> rfl) | (simp [*, errW_none, errW_some] <;> rfl), by repeat (first | (with_reducible first | exact HB.out | apply below_alloc | apply pw_below_drewN | apply below_drew1) | exact HB.out)⟩
  · rw [if_neg c6] at H
    exact absurd H (by simp)
end Go.Proofs.YtkhgeonlohafgaaGreatDoor.Core
namespace Go.Proofs.YtkhgeonlohafgaaGreatDoor.Core
open Go.RowKit Go.Proofs.YtkhgeonlohafgaaGreatDoorW.PrintWords Go.Proofs.YtkhgeonlohafgaaGreatDoorW.PrintLast Go.Proofs.YtkhgeonlohafgaaGreatDoorW.PrintMore
attribute [local go_sem] max2_int min2_int max_two min_two max_three min_three max_four min_four   -- for this text's walks alone
set_option linter.unusedVariables false
set_option linter.unusedSimpArgs false
mutual
def gronx_inRange.j0 : Nat → Int → Bool → Int → Int → Bool → Option (Bool × Option Int)
  | 0, _, _, _, _, _ => none
  | k + 1, x0, x3, x11, x13, x61 => if x61 = true then ((errors_New.f (⟨#[114, 97, 110, 103, 101, 32, 111, 117, 116, 32, 111, 102, 32, 98, 111, 117, 110, 100, 115, 40, 44, 32, 41]⟩ : ByteArray)).bind fun t531 => (some (false, t531))) else (if x3 = true then (if x11 = 7 then (gronx_inRange.j1 k x0 x11 x13 (x13 != 7)) else (gronx_inRange.j1 k x0 x11 x13 false)) else (if x13 < x11 then ((errors_New.f (⟨#[114, 97, 110, 103, 101, 32, 111, 117, 116, 32, 111, 102, 32, 98, 111, 117, 110, 100, 115, 40, 44, 32, 41]⟩ : ByteArray)).bind fun t534 => (some (false, t534))) else (if x11 ≤ x0 then (some (decide (x0 ≤ x13), none)) else (some (false, none)))))
def gronx_inRange.j1 : Nat → Int → Int → Int → Bool → Option (Bool × Option Int)
  | 0, _, _, _, _ => none
  | k + 1, x0, x11, x13, x69 => if x69 = true then (gronx_inRange.j2 k x0 0 x13) else (gronx_inRange.j2 k x0 x11 x13)
def gronx_inRange.j2 : Nat → Int → Int → Int → Option (Bool × Option Int)
  | 0, _, _, _ => none
  | k + 1, x0, x11, x13 => if x13 = 7 then (gronx_inRange.j3 k x0 x11 x13 (x0 == 0)) else (gronx_inRange.j3 k x0 x11 x13 false)
def gronx_inRange.j3 : Nat → Int → Int → Int → Bool → Option (Bool × Option Int)
  | 0, _, _, _, _ => none
  | k + 1, x0, x11, x13, x75 => if x75 = true then (if x13 < x11 then ((errors_New.f (⟨#[114, 97, 110, 103, 101, 32, 111, 117, 116, 32, 111, 102, 32, 98, 111, 117, 110, 100, 115, 40, 44, 32, 41]⟩ : ByteArray)).bind fun t532 => (some (false, t532))) else (if x11 ≤ 7 then (some (decide (7 ≤ x13), none)) else (some (false, none)))) else (if x13 < x11 then ((errors_New.f (⟨#[114, 97, 110, 103, 101, 32, 111, 117, 116, 32, 111, 102, 32, 98, 111, 117, 110, 100, 115, 40, 44, 32, 41]⟩ : ByteArray)).bind fun t533 => (some (false, t533))) else (if x11 ≤ x0 then (some (decide (x0 ≤ x13), none)) else (some (false, none))))
end
def gronx_inRange.f (k : Nat) (a0 : Int) (a1 : ByteArray) (l2 : List Int) (a3 : Bool) : Option (Bool × Option Int) := (gronx_zzSplit.f k a1 (⟨#[45]⟩ : ByteArray)).bind fun t516 => (if 0 < (t516.length : Int) then ((strconv_Atoi.f (rdOf ByteArray.empty t516 0)).bind fun bt520 => (if bt520.2.isNone = true then (if 1 < (t516.length : Int) then ((strconv_Atoi.f (rdOf ByteArray.empty t516 1)).bind fun bt524 => (if bt524.2.isNone = true then (if 0 < (l2.length : Int) then (if bt520.1 < (rd l2 0) then (gronx_inRange.j0 k a0 a3 bt520.1 bt524.1 true) else (if 1 < (l2.length : Int) then (if bt520.1 > (rd l2 1) then (gronx_inRange.j0 k a0 a3 bt520.1 bt524.1 true) else (if bt524.1 < (rd l2 0) then (gronx_inRange.j0 k a0 a3 bt520.1 bt524.1 true) else (gronx_inRange.j0 k a0 a3 bt520.1 bt524.1 (decide (bt524.1 > (rd l2 1)))))) else (none))) else (none)) else (some (false, some (bt524.2.getD 0))))) else (none)) else (some (false, some (bt520.2.getD 0))))) else (none))
set_option maxHeartbeats 8000000 in
set_option maxRecDepth 100000 in
theorem gronx_inRange.calls (k : Nat) (a0 : Int) (a1 : ByteArray) (A2 : Option Addr) (c2 : Nat) (l2 : List Int) (a3 : Bool) (r1 : Bool) (r2 : Option Int) (w : World) (hr2 : Kd.C (Kd.int .i64) w A2 l2.length l2) (hc2 : l2.length ≤ c2) (h : gronx_inRange.f k a0 a1 l2 a3 = some (r1, r2)) :
    Calls Tryz.prog 87 #[.int .i64 a0, .string a1, .slice A2 l2.length c2, .bool a3] w fun e w' => e = .returned (.tuple #[.bool r1, errW r2]) ∧ Below w.heap.size w w' := by
  have hu71 := Tryz.underlying71
  have HR2 := Aside0.mk hr2
  have HC2 := Aside0.mk hc2
  clear hr2 hc2
  have HB := Aside0.mk (Below.refl w.heap.size w)
  have H : ((gronx_zzSplit.f k a1 (⟨#[45]⟩ : ByteArray)).bind fun t516 => (if 0 < (t516.length : Int) then ((strconv_Atoi.f (rdOf ByteArray.empty t516 0)).bind fun bt520 => (if bt520.2.isNone = true then (if 1 < (t516.length : Int) then ((strconv_Atoi.f (rdOf ByteArray.empty t516 1)).bind fun bt524 => (if bt524.2.isNone = true then (if 0 < (l2.length : Int) then (if bt520.1 < (rd l2 0) then (gronx_inRange.j0 k a0 a3 bt520.1 bt524.1 true) else (if 1 < (l2.length : Int) then (if bt520.1 > (rd l2 1) then (gronx_inRange.j0 k a0 a3 bt520.1 bt524.1 true) else (if bt524.1 < (rd l2 0) then (gronx_inRange.j0 k a0 a3 bt520.1 bt524.1 true) else (gronx_inRange.j0 k a0 a3 bt520.1 bt524.1 (decide (bt524.1 > (rd l2 1)))))) else (none))) else (none)) else (some (false, some (bt524.2.getD 0))))) else (none)) else (some (false, some (bt520.2.getD 0))))) else (none))) = some (r1, r2) := h
  clear h
  replace H := Option.bind_eq_some_iff.mp H
  obtain ⟨t516, A50, H⟩ := H
  replace H : (if 0 < (t516.length : Int) then ((strconv_Atoi.f (rdOf ByteArray.empty t516 0)).bind fun bt520 => (if bt520.2.isNone = true then (if 1 < (t516.length : Int) then ((strconv_Atoi.f (rdOf ByteArray.empty t516 1)).bind fun bt524 => (if bt524.2.isNone = true then (if 0 < (l2.length : Int) then (if bt520.1 < (rd l2 0) then (gronx_inRange.j0 k a0 a3 bt520.1 bt524.1 true) else (if 1 < (l2.length : Int) then (if bt520.1 > (rd l2 1) then (gronx_inRange.j0 k a0 a3 bt520.1 bt524.1 true) else (if bt524.1 < (rd l2 0) then (gronx_inRange.j0 k a0 a3 bt520.1 bt524.1 true) else (gronx_inRange.j0 k a0 a3 bt520.1 bt524.1 (decide (bt524.1 > (rd l2 1)))))) else (none))) else (none)) else (some (false, some (bt524.2.getD 0))))) else (none)) else (some (false, some (bt520.2.getD 0))))) else (none)) = some (r1, r2) := H
  have A5 := Aside0.mk A50
  clear A50
  by_cases c6 : 0 < (t516.length : Int)
  · rw [if_pos c6] at H
    have c6b0 : decide (0 < (t516.length : Int)) = true := decide_eq_true c6
    have c6b1 : decide (0 < t516.length) = true := decide_eq_true (by omega)
    clear c6
    replace H := Option.bind_eq_some_iff.mp H
    obtain ⟨⟨t520, t521⟩, A70, H⟩ := H
    replace H : (if t521.isNone = true then (if 1 < (t516.length : Int) then ((strconv_Atoi.f (rdOf ByteArray.empty t516 1)).bind fun bt524 => (if bt524.2.isNone = true then (if 0 < (l2.length : Int) then (if t520 < (rd l2 0) then (gronx_inRange.j0 k a0 a3 t520 bt524.1 true) else (if 1 < (l2.length : Int) then (if t520 > (rd l2 1) then (gronx_inRange.j0 k a0 a3 t520 bt524.1 true) else (if bt524.1 < (rd l2 0) then (gronx_inRange.j0 k a0 a3 t520 bt524.1 true) else (gronx_inRange.j0 k a0 a3 t520 bt524.1 (decide (bt524.1 > (rd l2 1)))))) else (none))) else (none)) else (some (false, some (bt524.2.getD 0))))) else (none)) else (some (false, some (t521.getD 0)))) = some (r1, r2) := H
    have A7 := Aside0.mk A70
    clear A70
    rcases t521 with _ | q522
    · have H1 : (if 1 < (t516.length : Int) then ((strconv_Atoi.f (rdOf ByteArray.empty t516 1)).bind fun bt524 => (if bt524.2.isNone = true then (if 0 < (l2.length : Int) then (if t520 < (rd l2 0) then (gronx_inRange.j0 k a0 a3 t520 bt524.1 true) else (if 1 < (l2.length : Int) then (if t520 > (rd l2 1) then (gronx_inRange.j0 k a0 a3 t520 bt524.1 true) else (if bt524.1 < (rd l2 0) then (gronx_inRange.j0 k a0 a3 t520 bt524.1 true) else (gronx_inRange.j0 k a0 a3 t520 bt524.1 (decide (bt524.1 > (rd l2 1)))))) else (none))) else (none)) else (some (false, some (bt524.2.getD 0))))) else (none)) = some (r1, r2) := by rw [if_pos (show (none : Option Int).isNone = true by rfl)] at H; exact H
      clear H
      have H := H1
      clear H1
      try simp only [errW_none, errW_some]
      by_cases c8 : 1 < (t516.length : Int)
      · rw [if_pos c8] at H
        have c8b0 : decide (1 < (t516.length : Int)) = true := decide_eq_true c8
        have c8b1 : decide (1 < t516.length) = true := decide_eq_true (by omega)
        clear c8
        replace H := Option.bind_eq_some_iff.mp H
        obtain ⟨⟨t524, t525⟩, A90, H⟩ := H
        replace H : (if t525.isNone = true then (if 0 < (l2.length : Int) then (if t520 < (rd l2 0) then (gronx_inRange.j0 k a0 a3 t520 t524 true) else (if 1 < (l2.length : Int) then (if t520 > (rd l2 1) then (gronx_inRange.j0 k a0 a3 t520 t524 true) else (if t524 < (rd l2 0) then (gronx_inRange.j0 k a0 a3 t520 t524 true) else (gronx_inRange.j0 k a0 a3 t520 t524 (decide (t524 > (rd l2 1)))))) else (none))) else (none)) else (some (false, some (t525.getD 0)))) = some (r1, r2) := H
        have A9 := Aside0.mk A90
        clear A90
        rcases t525 with _ | q526
        · have H1 : (if 0 < (l2.length : Int) then (if t520 < (rd l2 0) then (gronx_inRange.j0 k a0 a3 t520 t524 true) else (if 1 < (l2.length : Int) then (if t520 > (rd l2 1) then (gronx_inRange.j0 k a0 a3 t520 t524 true) else (if t524 < (rd l2 0) then (gronx_inRange.j0 k a0 a3 t520 t524 true) else (gronx_inRange.j0 k a0 a3 t520 t524 (decide (t524 > (rd l2 1)))))) else (none))) else (none)) = some (r1, r2) := by rw [if_pos (show (none : Option Int).isNone = true by rfl)] at H; exact H
          clear H
          have H := H1
          clear H1
          try simp only [errW_none, errW_some]
          have HC10 := Aside0.mk H
          clear H
          go_enter Tryz.func87, Tryz.ntmps87
          go_upto_region 8 with (first | ((with_reducible refine gate_callee (f := 54) rfl ?_); refine goesL_ (some 15) rfl rfl Tryz.func54 (by kernel_rfl) rfl #[.string a1, .string (⟨#[45]⟩ : ByteArray)] rfl (by (try simp only [List.map_toArray, List.map_cons, List.map_nil]); first | done | rfl | (simp only [List.length_drop, List.length_take]; rfl)) ?_; (with_reducible refine (gronx_zzSplit.calls k a1 (⟨#[45]⟩ : ByteArray) t516 _ A5.out).mono ?_); rintro e w11 ⟨v517, rfl, ho0, hb⟩; refine ⟨_, rfl, ?_⟩; have n0_ := Aside0.mk (Kd.R_lower ho0 (below_size (by repeat (first | (with_reducible first | exact HB.out | apply below_alloc | apply pw_below_drewN | apply below_drew1) | exact HB.out)))); have n1_ := Aside0.mk (below_step (by repeat (first | (with_reducible first | exact HB.out | apply below_alloc | apply pw_below_drewN | apply below_drew1) | exact HB.out)) hb); clear HB; have HO518 := n0_; have HB := n1_; clear n0_ n1_; (try clear hb); (try clear hb2); (try clear hk); (try clear hi); (try clear ho0); obtain ⟨Ao12, co12, eo12⟩ := Kd.R_slice HO518.out; subst eo12; have p519 : 0 ≤ (0 : Int) := (by omega); have q519 : 0 < (t516.length : Int) := of_decide_eq_true (by first | (with_reducible assumption) | assumption); obtain ⟨ad519, e519, hx519_0⟩ := Kd.at_string (Kd.R_reads' HO518.out).2.2 0 p519 q519; cases e519; have qi519 : (0 < t516.length) = True := eq_true (by omega); (try rw [show ((0 : Int)).toNat = 0 from rfl] at hx519_0); (try rw [Addr.add_zero'] at hx519_0); replace p519 := eq_true p519; replace q519 := eq_true q519) | ((with_reducible refine gate_callee (f := 88) rfl ?_); refine goesL_ (some 20) rfl rfl Tryz.func88 (by kernel_rfl) rfl #[.string (rdOf ByteArray.empty t516 0)] rfl (by (try simp only [List.map_toArray, List.map_cons, List.map_nil]); first | done | rfl | (simp only [List.length_drop, List.length_take]; rfl)) ?_; (with_reducible refine (strconv_Atoi.calls (rdOf ByteArray.empty t516 0) t520 none _ A7.out).mono ?_); rintro e w13 ⟨rfl, hb⟩; refine ⟨_, rfl, ?_⟩; have n0_ := Aside0.mk (Kd.R_below (by (with_reducible repeat (first | apply Kd.R_alloc | apply Kd.R_drewN | apply Kd.R_drew)); exact HO518.out) hb); have n1_ := Aside0.mk (below_step (by repeat (first | (with_reducible first | exact HB.out | apply below_alloc | apply pw_below_drewN | apply below_drew1) | exact HB.out)) hb); clear HO518; clear HB; have HO518 := n0_; have HB := n1_; clear n0_ n1_; (try clear hb); (try clear hb2); (try clear hk); (try clear hi); (try simp only [errW_none, errW_some]); have p523 : 0 ≤ (1 : Int) := (by omega); have q523 : 1 < (t516.length : Int) := of_decide_eq_true (by first | (with_reducible assumption) | assumption); obtain ⟨ad523, e523, hx523_0⟩ := Kd.at_string (Kd.R_reads' HO518.out).2.2 1 p523 q523; obtain rfl : ad519 = ad523 := (by injection e523); (try simp only [show (1 : Int).toNat = 1 from rfl, Nat.reduceMul, Nat.reduceEqDiff, Go.Addr.add, ↓reduceIte] at hx523_0); have qi523 : (1 < t516.length) = True := eq_true (by omega); (try rw [show ((1 : Int)).toNat = 1 from rfl] at hx523_0); replace p523 := eq_true p523; replace q523 := eq_true q523) | ((with_reducible refine gate_callee (f := 88) rfl ?_); refine goesL_ (some 30) rfl rfl Tryz.func88 (by kernel_rfl) rfl #[.string (rdOf ByteArray.empty t516 1)] rfl (by (try simp only [List.map_toArray, List.map_cons, List.map_nil]); first | done | rfl | (simp only [List.length_drop, List.length_take]; rfl)) ?_; (with_reducible refine (strconv_Atoi.calls (rdOf ByteArray.empty t516 1) t524 none _ A9.out).mono ?_); rintro e w14 ⟨rfl, hb⟩; refine ⟨_, rfl, ?_⟩; have n0_ := Aside0.mk (Kd.R_below (by (with_reducible repeat (first | apply Kd.R_alloc | apply Kd.R_drewN | apply Kd.R_drew)); exact HO518.out) hb); have n1_ := Aside0.mk (below_step (by repeat (first | (with_reducible first | exact HB.out | apply below_alloc | apply pw_below_drewN | apply below_drew1) | exact HB.out)) hb); clear HO518; clear HB; have HO518 := n0_; have HB := n1_; clear n0_ n1_; (try clear hb); (try clear hb2); (try clear hk); (try clear hi); (try simp only [errW_none, errW_some])))
          (try simp only [Act.put, List.setIfInBounds_toArray, List.set_cons_zero, List.set_cons_succ])
          go_cut [61] (fun v61 wc => ∃ (kq : Nat) (x61_9 : Bool), v61 = .bool x61_9 ∧ Aside0 (gronx_inRange.j0 kq a0 a3 t520 t524 x61_9 = some (r1, r2)) ∧ Aside0 (kq ≤ k) ∧ Aside0 (Below w.heap.size w wc))
          case first =>
            have H := HC10.out
            clear HC10
            by_cases c15 : 0 < (l2.length : Int)
            · rw [if_pos c15] at H
              have c15b0 : decide (0 < (l2.length : Int)) = true := decide_eq_true c15
              have c15b1 : decide (0 < l2.length) = true := decide_eq_true (by omega)
              clear c15
              (first | rw [c15b0] | (simp only [i64_w, i32_w]; rw [c15b0]) | skip)
              by_cases c16 : t520 < (rd l2 0)
              · rw [if_pos c16] at H
                have c16b0 : decide (t520 < (rd l2 0)) = true := decide_eq_true c16
                clear c16
                have H' := Aside0.mk H
                clear H
                have p527 : 0 ≤ (0 : Int) := (by omega)
                have q527 : 0 < (l2.length : Int) := of_decide_eq_true (by first | (with_reducible assumption) | assumption)
                obtain ⟨ad527, e527, hx527_0⟩ := Kd.at_int HR2.out 0 p527 q527
                cases e527
                have qi527 : (0 < l2.length) = True := eq_true (by omega)
                (try rw [show ((0 : Int)).toNat = 0 from rfl] at hx527_0)
                (try rw [Addr.add_zero'] at hx527_0)
                replace hx527_0 := (HB.out.cell (World.block_lt_of_cell? w _ hx527_0)).trans hx527_0
                replace p527 := eq_true p527
                replace q527 := eq_true q527
                go_wp2
                go_meet
                case rel => exact ⟨_, (true), (by first | rfl | (simp; done) | (simp [*]; done)), H', ⟨by first | omega | exact Nat.le_refl _⟩, ⟨by repeat (first | (with_reducible first | exact HB.out | apply below_alloc | apply pw_below_drewN | apply below_drew1) | exact HB.out)⟩⟩
              · rw [if_neg c16] at H
                have c16b0 : decide (t520 < (rd l2 0)) = false := decide_eq_false c16
                clear c16
                by_cases c17 : 1 < (l2.length : Int)
                · rw [if_pos c17] at H
                  have c17b0 : decide (1 < (l2.length : Int)) = true := decide_eq_true c17
                  have c17b1 : decide (1 < l2.length) = true := decide_eq_true (by omega)
                  clear c17
                  by_cases c18 : t520 > (rd l2 1)
                  · rw [if_pos c18] at H
                    have c18b0 : decide ((rd l2 1) < t520) = true := decide_eq_true c18
                    clear c18
                    have H' := Aside0.mk H
                    clear H
                    have p527 : 0 ≤ (0 : Int) := (by omega)
                    have q527 : 0 < (l2.length : Int) := of_decide_eq_true (by first | (with_reducible assumption) | assumption)
                    obtain ⟨ad527, e527, hx527_0⟩ := Kd.at_int HR2.out 0 p527 q527
                    cases e527
                    have qi527 : (0 < l2.length) = True := eq_true (by omega)
                    (try rw [show ((0 : Int)).toNat = 0 from rfl] at hx527_0)
                    (try rw [Addr.add_zero'] at hx527_0)
                    replace hx527_0 := (HB.out.cell (World.block_lt_of_cell? w _ hx527_0)).trans hx527_0
                    replace p527 := eq_true p527
                    replace q527 := eq_true q527
                    have p528 : 0 ≤ (1 : Int) := (by omega)
                    have q528 : 1 < (l2.length : Int) := of_decide_eq_true (by first | (with_reducible assumption) | assumption)
                    obtain ⟨ad528, e528, hx528_0⟩ := Kd.at_int HR2.out 1 p528 q528
                    obtain rfl : ad527 = ad528 := (by injection e528)
                    (try simp only [show (1 : Int).toNat = 1 from rfl, Nat.reduceMul, Nat.reduceEqDiff, Go.Addr.add, ↓reduceIte] at hx528_0)
                    have qi528 : (1 < l2.length) = True := eq_true (by omega)
                    (try rw [show ((1 : Int)).toNat = 1 from rfl] at hx528_0)
                    replace hx528_0 := (HB.out.cell (World.block_lt_of_cell? w _ hx528_0)).trans hx528_0
                    replace p528 := eq_true p528
                    replace q528 := eq_true q528
                    go_wp2
                    go_meet
                    case rel => exact ⟨_, (true), (by first | rfl | (simp; done) | (simp [*]; done)), H', ⟨by first | omega | exact Nat.le_refl _⟩, ⟨by repeat (first | (with_reducible first | exact HB.out | apply below_alloc | apply pw_below_drewN | apply below_drew1) | exact HB.out)⟩⟩
                  · rw [if_neg c18] at H
                    have c18b0 : decide ((rd l2 1) < t520) = false := decide_eq_false c18
                    clear c18
                    by_cases c19 : t524 < (rd l2 0)
                    · rw [if_pos c19] at H
                      have c19b0 : decide (t524 < (rd l2 0)) = true := decide_eq_true c19
                      clear c19
                      have H' := Aside0.mk H
                      clear H
                      have p527 : 0 ≤ (0 : Int) := (by omega)
                      have q527 : 0 < (l2.length : Int) := of_decide_eq_true (by first | (with_reducible assumption) | assumption)
                      obtain ⟨ad527, e527, hx527_0⟩ := Kd.at_int HR2.out 0 p527 q527
                      cases e527
                      have qi527 : (0 < l2.length) = True := eq_true (by omega)
                      (try rw [show ((0 : Int)).toNat = 0 from rfl] at hx527_0)
                      (try rw [Addr.add_zero'] at hx527_0)
                      replace hx527_0 := (HB.out.cell (World.block_lt_of_cell? w _ hx527_0)).trans hx527_0
                      replace p527 := eq_true p527
                      replace q527 := eq_true q527
                      have p528 : 0 ≤ (1 : Int) := (by omega)
                      have q528 : 1 < (l2.length : Int) := of_decide_eq_true (by first | (with_reducible assumption) | assumption)
                      obtain ⟨ad528, e528, hx528_0⟩ := Kd.at_int HR2.out 1 p528 q528
                      obtain rfl : ad527 = ad528 := (by injection e528)
                      (try simp only [show (1 : Int).toNat = 1 from rfl, Nat.reduceMul, Nat.reduceEqDiff, Go.Addr.add, ↓reduceIte] at hx528_0)
                      have qi528 : (1 < l2.length) = True := eq_true (by omega)
                      (try rw [show ((1 : Int)).toNat = 1 from rfl] at hx528_0)
                      replace hx528_0 := (HB.out.cell (World.block_lt_of_cell? w _ hx528_0)).trans hx528_0
                      replace p528 := eq_true p528
                      replace q528 := eq_true q528
                      have p529 : 0 ≤ (0 : Int) := (by omega)
                      have q529 : 0 < (l2.length : Int) := of_decide_eq_true (by first | (with_reducible assumption) | assumption)
                      obtain ⟨ad529, e529, hx529_0⟩ := Kd.at_int HR2.out 0 p529 q529
                      obtain rfl : ad527 = ad529 := (by injection e529)
                      have qi529 : (0 < l2.length) = True := eq_true (by omega)
                      (try rw [show ((0 : Int)).toNat = 0 from rfl] at hx529_0)
                      (try rw [Addr.add_zero'] at hx529_0)
                      replace hx529_0 := (HB.out.cell (World.block_lt_of_cell? w _ hx529_0)).trans hx529_0
                      replace p529 := eq_true p529
                      replace q529 := eq_true q529
                      go_wp2
                      go_meet
                      case rel => exact ⟨_, (true), (by first | rfl | (simp; done) | (simp [*]; done)), H', ⟨by first | omega | exact Nat.le_refl _⟩, ⟨by repeat (first | (with_reducible first | exact HB.out | apply below_alloc | apply pw_below_drewN | apply below_drew1) | exact HB.out)⟩⟩
                    · rw [if_neg c19] at H
                      have c19b0 : decide (t524 < (rd l2 0)) = false := decide_eq_false c19
                      clear c19
                      have H' := Aside0.mk H
                      clear H
                      have p527 : 0 ≤ (0 : Int) := (by omega)
                      have q527 : 0 < (l2.length : Int) := of_decide_eq_true (by first | (with_reducible assumption) | assumption)
                      obtain ⟨ad527, e527, hx527_0⟩ := Kd.at_int HR2.out 0 p527 q527
                      cases e527
                      have qi527 : (0 < l2.length) = True := eq_true (by omega)
                      (try rw [show ((0 : Int)).toNat = 0 from rfl] at hx527_0)
                      (try rw [Addr.add_zero'] at hx527_0)
                      replace hx527_0 := (HB.out.cell (World.block_lt_of_cell? w _ hx527_0)).trans hx527_0
                      replace p527 := eq_true p527
                      replace q527 := eq_true q527
                      have p528 : 0 ≤ (1 : Int) := (by omega)
                      have q528 : 1 < (l2.length : Int) := of_decide_eq_true (by first | (with_reducible assumption) | assumption)
                      obtain ⟨ad528, e528, hx528_0⟩ := Kd.at_int HR2.out 1 p528 q528
                      obtain rfl : ad527 = ad528 := (by injection e528)
                      (try simp only [show (1 : Int).toNat = 1 from rfl, Nat.reduceMul, Nat.reduceEqDiff, Go.Addr.add, ↓reduceIte] at hx528_0)
                      have qi528 : (1 < l2.length) = True := eq_true (by omega)
                      (try rw [show ((1 : Int)).toNat = 1 from rfl] at hx528_0)
                      replace hx528_0 := (HB.out.cell (World.block_lt_of_cell? w _ hx528_0)).trans hx528_0
                      replace p528 := eq_true p528
                      replace q528 := eq_true q528
                      have p529 : 0 ≤ (0 : Int) := (by omega)
                      have q529 : 0 < (l2.length : Int) := of_decide_eq_true (by first | (with_reducible assumption) | assumption)
                      obtain ⟨ad529, e529, hx529_0⟩ := Kd.at_int HR2.out 0 p529 q529
                      obtain rfl : ad527 = ad529 := (by injection e529)
                      have qi529 : (0 < l2.length) = True := eq_true (by omega)
                      (try rw [show ((0 : Int)).toNat = 0 from rfl] at hx529_0)
                      (try rw [Addr.add_zero'] at hx529_0)
                      replace hx529_0 := (HB.out.cell (World.block_lt_of_cell? w _ hx529_0)).trans hx529_0
                      replace p529 := eq_true p529
                      replace q529 := eq_true q529
                      have p530 : 0 ≤ (1 : Int) := (by omega)
                      have q530 : 1 < (l2.length : Int) := of_decide_eq_true (by first | (with_reducible assumption) | assumption)
                      obtain ⟨ad530, e530, hx530_0⟩ := Kd.at_int HR2.out 1 p530 q530
                      obtain rfl : ad527 = ad530 := (by injection e530)
                      (try simp only [show (1 : Int).toNat = 1 from rfl, Nat.reduceMul, Nat.reduceEqDiff, Go.Addr.add, ↓reduceIte] at hx530_0)
                      have qi530 : (1 < l2.length) = True := eq_true (by omega)
                      (try rw [show ((1 : Int)).toNat = 1 from rfl] at hx530_0)
                      replace hx530_0 := (HB.out.cell (World.block_lt_of_cell? w _ hx530_0)).trans hx530_0
                      replace p530 := eq_true p530
                      replace q530 := eq_true q530
                      go_wp2
                      go_meet
                      case rel => exact ⟨_, (decide (t524 > (rd l2 1))), (by first | rfl | (simp; done) | (simp [*]; done)), H', ⟨by first | omega | exact Nat.le_refl _⟩, ⟨by repeat (first | (with_reducible first | exact HB.out | apply below_alloc | apply pw_below_drewN | apply below_drew1) | exact HB.out)⟩⟩
                · rw [if_neg c17] at H
                  exact absurd H (by simp)
            · rw [if_neg c15] at H
              exact absurd H (by simp)
          case rest =>
            clear HC10
            try clear c1
            try clear c2
            try clear p2
            try clear c5
            try clear p5
            try clear q5
            try clear hx5
            try clear qi5
            try clear c6
            try clear c6b0
            try clear c6b1
            try clear c8
            try clear c8b0
            try clear c8b1
            try clear c15
            try clear c15b0
            try clear c15b1
            try clear c16
            try clear c16b0
            try clear c17
            try clear c17b0
            try clear c17b1
            try clear c18
            try clear c18b0
            try clear c19
            try clear c19b0
            try clear hx519_0
            try clear hx523_0
            try clear hx527_0
            try clear hx528_0
            try clear hx529_0
            try clear hx530_0
            try clear p519
            try clear p523
            try clear p527
            try clear p528
            try clear p529
            try clear p530
            try clear q519
            try clear q522
            try clear q523
            try clear q526
            try clear q527
            try clear q528
            try clear q529
            try clear q530
            obtain ⟨kq, x61_9, rfl, HA, HJ9, HB⟩ := hcut
            cases kq with
            | zero => exact absurd HA.out (by simp [gronx_inRange.j0])
            | succ kj9 =>
              have H := HA.out
              clear HA
              simp only [gronx_inRange.j0] at H
              by_cases c20 : x61_9 = true
              · subst c20
                have H1 : ((errors_New.f (⟨#[114, 97, 110, 103, 101, 32, 111, 117, 116, 32, 111, 102, 32, 98, 111, 117, 110, 100, 115, 40, 44, 32, 41]⟩ : ByteArray)).bind fun t531 => (some (false, t531))) = some (r1, r2) := by rw [if_pos rfl] at H; exact H
                clear H
                have H := H1
                clear H1
                replace H := Option.bind_eq_some_iff.mp H
                obtain ⟨t531, A210, H⟩ := H
                replace H : (some (false, t531)) = some (r1, r2) := H
                have A21 := Aside0.mk A210
                clear A210
                simp only [Option.some.injEq, Prod.mk.injEq] at H
                obtain ⟨rfl, rfl⟩ := H
                go_wp2_with (first | ((with_reducible refine gate_callee (f := 51) rfl ?_); refine goesL_ (some 62) rfl rfl Tryz.func51 (by kernel_rfl) rfl #[.string (⟨#[114, 97, 110, 103, 101, 32, 111, 117, 116, 32, 111, 102, 32, 98, 111, 117, 110, 100, 115, 40, 44, 32, 41]⟩ : ByteArray)] rfl (by (try simp only [List.map_toArray, List.map_cons, List.map_nil]); first | done | rfl | (simp only [List.length_drop, List.length_take]; rfl)) ?_; (with_reducible refine (errors_New.calls (⟨#[114, 97, 110, 103, 101, 32, 111, 117, 116, 32, 111, 102, 32, 98, 111, 117, 110, 100, 115, 40, 44, 32, 41]⟩ : ByteArray) t531 _ A21.out).mono ?_); rintro e w22 ⟨rfl, hb⟩; refine ⟨_, rfl, ?_⟩; have n0_ := Aside0.mk (below_step (by repeat (first | (with_reducible first | exact HB.out | apply below_alloc | apply pw_below_drewN | apply below_drew1) | exact HB.out)) hb); clear HB; have HB := n0_; clear n0_; (try clear hb); (try clear hb2); (try clear hk); (try clear hi); (try simp only [errW_none, errW_some])))
                go_ret2
                exact ⟨by first | rfl | (simp [errW_none, errW_some] <;> rfl) | (simp [*, errW_none, errW_some] <;> rfl), by repeat (first | (with_reducible first | exact HB.out | apply below_alloc | apply pw_below_drewN | apply below_drew1) | exact HB.out)⟩
              · replace c20 := Bool.eq_false_iff.mpr c20
                subst c20
                have H1 : (if a3 = true then (if t520 = 7 then (gronx_inRange.j1 kj9 a0 t520 t524 (t524 != 7)) else (gronx_inRange.j1 kj9 a0 t520 t524 false)) else (if t524 < t520 then ((errors_New.f (⟨#[114, 97, 110, 103, 101, 32, 111, 117, 116, 32, 111, 102, 32, 98, 111, 117, 110, 100, 115, 40, 44, 32, 41]⟩ : ByteArray)).bind fun t534 => (some (false, t534))) else (if t520 ≤ a0 then (some (decide (a0 ≤ t524), none)) else (some (false, none))))) = some (r1, r2) := by rw [if_neg (show ¬ (false = true) by decide)] at H; exact H
                clear H
                have H := H1
                clear H1
                by_cases c23 : a3 = true
                · subst c23
                  have H1 : (if t520 = 7 then (gronx_inRange.j1 kj9 a0 t520 t524 (t524 != 7)) else (gronx_inRange.j1 kj9 a0 t520 t524 false)) = some (r1, r2) := by rw [if_pos rfl] at H; exact H
                  clear H
                  have H := H1
                  clear H1
                  have HC24 := Aside0.mk H
                  clear H
                  go_upto_region 11 with (fail)
                  go_cut [69] (fun v69 wc => ∃ (kq : Nat) (x69_23 : Bool), v69 = .bool x69_23 ∧ Aside0 (gronx_inRange.j1 kq a0 t520 t524 x69_23 = some (r1, r2)) ∧ Aside0 (kq ≤ kj9) ∧ Aside0 (Below w.heap.size w wc))
                  case first =>
                    have H := HC24.out
                    clear HC24
                    by_cases c25 : t520 = 7
                    · rw [if_pos c25] at H
                      have c25b0 : (t520 == 7) = true := beq_iff_eq.mpr c25
                      have c25b1 : (t520 != 7) = false := bne_eq_false_iff_eq.mpr c25
                      clear c25
                      (first | rw [c25b0] | (simp only [i64_w, i32_w]; rw [c25b0]) | skip)
                      have H' := Aside0.mk H
                      clear H
                      go_wp2
                      go_meet
                      case rel => exact ⟨_, ((t524 != 7)), (by first | rfl | (simp; done) | (simp [*]; done)), H', ⟨by have := HJ9.out; first | omega | exact Nat.le_refl _⟩, ⟨by repeat (first | (with_reducible first | exact HB.out | apply below_alloc | apply pw_below_drewN | apply below_drew1) | exact HB.out)⟩⟩
                    · rw [if_neg c25] at H
                      have c25b0 : (t520 == 7) = false := beq_eq_false_iff_ne.mpr c25
                      have c25b1 : (t520 != 7) = true := bne_iff_ne.mpr c25
                      (first | rw [c25b0] | (simp only [i64_w, i32_w]; rw [c25b0]) | skip)
                      have H' := Aside0.mk H
                      clear H
                      go_wp2
                      go_meet
                      case rel => exact ⟨_, (false), (by first | rfl | (simp; done) | (simp [*]; done)), H', ⟨by have := HJ9.out; first | omega | exact Nat.le_refl _⟩, ⟨by repeat (first | (with_reducible first | exact HB.out | apply below_alloc | apply pw_below_drewN | apply below_drew1) | exact HB.out)⟩⟩
                  case rest =>
                    clear HC24
                    try clear c1
                    try clear c2
                    try clear p2
                    try clear c5
                    try clear p5
                    try clear q5
                    try clear hx5
                    try clear qi5
                    try clear c6
                    try clear c6b0
                    try clear c6b1
                    try clear c8
                    try clear c8b0
                    try clear c8b1
                    try clear c15
                    try clear c15b0
                    try clear c15b1
                    try clear c16
                    try clear c16b0
                    try clear c17
                    try clear c17b0
                    try clear c17b1
                    try clear c18
                    try clear c18b0
                    try clear c19
                    try clear c19b0
                    try clear c20
                    try clear c23
                    try clear c25
                    try clear c25b0
                    try clear c25b1
                    try clear hx519_0
                    try clear hx523_0
                    try clear hx527_0
                    try clear hx528_0
                    try clear hx529_0
                    try clear hx530_0
                    try clear p2
                    try clear p5
                    try clear p519
                    try clear p523
                    try clear p527
                    try clear p528
                    try clear p529
                    try clear p530
                    try clear q5
                    try clear q519
                    try clear q522
                    try clear q523
                    try clear q526
                    try clear q527
                    try clear q528
                    try clear q529
                    try clear q530
                    obtain ⟨kq, x69_23, rfl, HA, HJ23, HB⟩ := hcut
                    cases kq with
                    | zero => exact absurd HA.out (by simp [gronx_inRange.j1])
                    | succ kj23 =>
                      have H := HA.out
                      clear HA
                      simp only [gronx_inRange.j1] at H
                      have HC26 := Aside0.mk H
                      clear H
                      go_upto_if 69 with (fail)
                      go_cut [11] (fun v11 wc => ∃ (kq : Nat) (x11_25 : Int), v11 = .int .i64 x11_25 ∧ Aside0 (gronx_inRange.j2 kq a0 x11_25 t524 = some (r1, r2)) ∧ Aside0 (kq ≤ kj23) ∧ Aside0 (Below w.heap.size w wc))
                      case first =>
                        have H := HC26.out
                        clear HC26
                        by_cases c27 : x69_23 = true
                        · subst c27
                          have H1 : (gronx_inRange.j2 kj23 a0 0 t524) = some (r1, r2) := by rw [if_pos rfl] at H; exact H
                          clear H
                          have H := H1
                          clear H1
                          have H' := Aside0.mk H
                          clear H
                          go_wp2
                          go_meet
                          case rel => exact ⟨_, (0), (by first | rfl | (simp; done) | (simp [*]; done)), H', ⟨by have := HJ9.out; have := HJ23.out; first | omega | exact Nat.le_refl _⟩, ⟨by repeat (first | (with_reducible first | exact HB.out | apply below_alloc | apply pw_below_drewN | apply below_drew1) | exact HB.out)⟩⟩
                        · replace c27 := Bool.eq_false_iff.mpr c27
                          subst c27
                          have H1 : (gronx_inRange.j2 kj23 a0 t520 t524) = some (r1, r2) := by rw [if_neg (show ¬ (false = true) by decide)] at H; exact H
                          clear H
                          have H := H1
                          clear H1
                          have H' := Aside0.mk H
                          clear H
                          go_wp2
                          go_meet
                          case rel => exact ⟨_, (t520), (by first | rfl | (simp; done) | (simp [*]; done)), H', ⟨by have := HJ9.out; have := HJ23.out; first | omega | exact Nat.le_refl _⟩, ⟨by repeat (first | (with_reducible first | exact HB.out | apply below_alloc | apply pw_below_drewN | apply below_drew1) | exact HB.out)⟩⟩
                      case rest =>
                        clear HC26
                        try clear c1
                        try clear c2
                        try clear p2
                        try clear c5
                        try clear p5
                        try clear q5
                        try clear hx5
                        try clear qi5
                        try clear c6
                        try clear c6b0
                        try clear c6b1
                        try clear c8
                        try clear c8b0
                        try clear c8b1
                        try clear c15
                        try clear c15b0
                        try clear c15b1
                        try clear c16
                        try clear c16b0
                        try clear c17
                        try clear c17b0
                        try clear c17b1
                        try clear c18
                        try clear c18b0
                        try clear c19
                        try clear c19b0
                        try clear c20
                        try clear c23
                        try clear c25
                        try clear c25b0
                        try clear c25b1
                        try clear c27
                        try clear hx519_0
                        try clear hx523_0
                        try clear hx527_0
                        try clear hx528_0
                        try clear hx529_0
                        try clear hx530_0
                        try clear p2
                        try clear p5
                        try clear p519
                        try clear p523
                        try clear p527
                        try clear p528
                        try clear p529
                        try clear p530
                        try clear q5
                        try clear q519
                        try clear q522
                        try clear q523
                        try clear q526
                        try clear q527
                        try clear q528
                        try clear q529
                        try clear q530
                        obtain ⟨kq, x11_25, rfl, HA, HJ25, HB⟩ := hcut
                        cases kq with
                        | zero => exact absurd HA.out (by simp [gronx_inRange.j2])
                        | succ kj25 =>
                          have H := HA.out
                          clear HA
                          simp only [gronx_inRange.j2] at H
                          have HC28 := Aside0.mk H
                          clear H
                          go_upto_region 13 with (fail)
                          go_cut [75] (fun v75 wc => ∃ (kq : Nat) (x75_27 : Bool), v75 = .bool x75_27 ∧ Aside0 (gronx_inRange.j3 kq a0 x11_25 t524 x75_27 = some (r1, r2)) ∧ Aside0 (kq ≤ kj25) ∧ Aside0 (Below w.heap.size w wc))
                          case first =>
                            have H := HC28.out
                            clear HC28
                            by_cases c29 : t524 = 7
                            · rw [if_pos c29] at H
                              have c29b0 : (t524 == 7) = true := beq_iff_eq.mpr c29
                              have c29b1 : (t524 != 7) = false := bne_eq_false_iff_eq.mpr c29
                              clear c29
                              (first | rw [c29b0] | (simp only [i64_w, i32_w]; rw [c29b0]) | skip)
                              have H' := Aside0.mk H
                              clear H
                              go_wp2
                              go_meet
                              case rel => exact ⟨_, ((a0 == 0)), (by first | rfl | (simp; done) | (simp [*]; done)), H', ⟨by have := HJ9.out; have := HJ23.out; have := HJ25.out; first | omega | exact Nat.le_refl _⟩, ⟨by repeat (first | (with_reducible first | exact HB.out | apply below_alloc | apply pw_below_drewN | apply below_drew1) | exact HB.out)⟩⟩
                            · rw [if_neg c29] at H
                              have c29b0 : (t524 == 7) = false := beq_eq_false_iff_ne.mpr c29
                              have c29b1 : (t524 != 7) = true := bne_iff_ne.mpr c29
                              (first | rw [c29b0] | (simp only [i64_w, i32_w]; rw [c29b0]) | skip)
                              have H' := Aside0.mk H
                              clear H
                              go_wp2
                              go_meet
                              case rel => exact ⟨_, (false), (by first | rfl | (simp; done) | (simp [*]; done)), H', ⟨by have := HJ9.out; have := HJ23.out; have := HJ25.out; first | omega | exact Nat.le_refl _⟩, ⟨by repeat (first | (with_reducible first | exact HB.out | apply below_alloc | apply pw_below_drewN | apply below_drew1) | exact HB.out)⟩⟩
                          case rest =>
                            clear HC28
                            try clear c1
                            try clear c2
                            try clear p2
                            try clear c5
                            try clear p5
                            try clear q5
                            try clear hx5
                            try clear qi5
                            try clear c6
                            try clear c6b0
                            try clear c6b1
                            try clear c8
                            try clear c8b0
                            try clear c8b1
                            try clear c15
                            try clear c15b0
                            try clear c15b1
                            try clear c16
                            try clear c16b0
                            try clear c17
                            try clear c17b0
                            try clear c17b1
                            try clear c18
                            try clear c18b0
                            try clear c19
                            try clear c19b0
                            try clear c20
                            try clear c23
                            try clear c25
                            try clear c25b0
                            try clear c25b1
                            try clear c27
                            try clear c29
                            try clear c29b0
                            try clear c29b1
                            try clear hx519_0
                            try clear hx523_0
                            try clear hx527_0
                            try clear hx528_0
                            try clear hx529_0
                            try clear hx530_0
                            try clear p2
                            try clear p5
                            try clear p519
                            try clear p523
                            try clear p527
                            try clear p528
                            try clear p529
                            try clear p530
                            try clear q5
                            try clear q519
                            try clear q522
                            try clear q523
                            try clear q526
                            try clear q527
                            try clear q528
                            try clear q529
                            try clear q530
                            obtain ⟨kq, x75_27, rfl, HA, HJ27, HB⟩ := hcut
                            cases kq with
                            | zero => exact absurd HA.out (by simp [gronx_inRange.j3])
                            | succ kj27 =>
                              have H := HA.out
                              clear HA
                              simp only [gronx_inRange.j3] at H
                              by_cases c30 : x75_27 = true
                              · subst c30
                                have H1 : (if t524 < x11_25 then ((errors_New.f (⟨#[114, 97, 110, 103, 101, 32, 111, 117, 116, 32, 111, 102, 32, 98, 111, 117, 110, 100, 115, 40, 44, 32, 41]⟩ : ByteArray)).bind fun t532 => (some (false, t532))) else (if x11_25 ≤ 7 then (some (decide (7 ≤ t524), none)) else (some (false, none)))) = some (r1, r2) := by rw [if_pos rfl] at H; exact H
                                clear H
                                have H := H1
                                clear H1
                                by_cases c31 : t524 < x11_25
                                · rw [if_pos c31] at H
                                  have c31b0 : decide (t524 < x11_25) = true := decide_eq_true c31
                                  clear c31
                                  replace H := Option.bind_eq_some_iff.mp H
                                  obtain ⟨t532, A320, H⟩ := H
                                  replace H : (some (false, t532)) = some (r1, r2) := H
                                  have A32 := Aside0.mk A320
                                  clear A320
                                  simp only [Option.some.injEq, Prod.mk.injEq] at H
                                  obtain ⟨rfl, rfl⟩ := H
                                  go_wp2_with (first | ((with_reducible refine gate_callee (f := 51) rfl ?_); refine goesL_ (some 79) rfl rfl Tryz.func51 (by kernel_rfl) rfl #[.string (⟨#[114, 97, 110, 103, 101, 32, 111, 117, 116, 32, 111, 102, 32, 98, 111, 117, 110, 100, 115, 40, 44, 32, 41]⟩ : ByteArray)] rfl (by (try simp only [List.map_toArray, List.map_cons, List.map_nil]); first | done | rfl | (simp only [List.length_drop, List.length_take]; rfl)) ?_; (with_reducible refine (errors_New.calls (⟨#[114, 97, 110, 103, 101, 32, 111, 117, 116, 32, 111, 102, 32, 98, 111, 117, 110, 100, 115, 40, 44, 32, 41]⟩ : ByteArray) t532 _ A32.out).mono ?_); rintro e w33 ⟨rfl, hb⟩; refine ⟨_, rfl, ?_⟩; have n0_ := Aside0.mk (below_step (by repeat (first | (with_reducible first | exact HB.out | apply below_alloc | apply pw_below_drewN | apply below_drew1) | exact HB.out)) hb); clear HB; have HB := n0_; clear n0_; (try clear hb); (try clear hb2); (try clear hk); (try clear hi); (try simp only [errW_none, errW_some])))
                                  go_ret2
                                  exact ⟨by first | rfl | (simp [errW_none, errW_some] <;> rfl) | (simp [*, errW_none, errW_some] <;> rfl), by repeat (first | (with_reducible first | exact HB.out | apply below_alloc | apply pw_below_drewN | apply below_drew1) | exact HB.out)⟩
                                · rw [if_neg c31] at H
                                  have c31b0 : decide (t524 < x11_25) = false := decide_eq_false c31
                                  clear c31
                                  by_cases c34 : x11_25 ≤ 7
                                  · rw [if_pos c34] at H
                                    have c34b0 : decide (x11_25 ≤ 7) = true := decide_eq_true c34
                                    clear c34
                                    simp only [Option.some.injEq, Prod.mk.injEq] at H
                                    obtain ⟨rfl, rfl⟩ := H
                                    go_wp2
                                    go_ret2
                                    exact ⟨by first | rfl | (simp [errW_none, errW_some] <;> rfl) | (simp [*, errW_none, errW_some] <;> rfl), by repeat (first | (with_reducible first | exact HB.out | apply below_alloc | apply pw_below_drewN | apply below_drew1) | exact HB.out)⟩
                                  · rw [if_neg c34] at H
                                    have c34b0 : decide (x11_25 ≤ 7) = false := decide_eq_false c34
                                    clear c34
                                    simp only [Option.some.injEq, Prod.mk.injEq] at H
                                    obtain ⟨rfl, rfl⟩ := H
                                    go_wp2
                                    go_ret2
                                    exact ⟨by first | rfl | (simp [errW_none, errW_some] <;> rfl) | (simp [*, errW_none, errW_some] <;> rfl), by repeat (first | (with_reducible first | exact HB.out | apply below_alloc | apply pw_below_drewN | apply below_drew1) | exact HB.out)⟩
                              · replace c30 := Bool.eq_false_iff.mpr c30
                                subst c30
                                have H1 : (if t524 < x11_25 then ((errors_New.f (⟨#[114, 97, 110, 103, 101, 32, 111, 117, 116, 32, 111, 102, 32, 98, 111, 117, 110, 100, 115, 40, 44, 32, 41]⟩ : ByteArray)).bind fun t533 => (some (false, t533))) else (if x11_25 ≤ a0 then (some (decide (a0 ≤ t524), none)) else (some (false, none)))) = some (r1, r2) := by rw [if_neg (show ¬ (false = true) by decide)] at H; exact H
                                clear H
                                have H := H1
                                clear H1
                                by_cases c35 : t524 < x11_25
                                · rw [if_pos c35] at H
                                  have c35b0 : decide (t524 < x11_25) = true := decide_eq_true c35
                                  clear c35
                                  replace H := Option.bind_eq_some_iff.mp H
                                  obtain ⟨t533, A360, H⟩ := H
                                  replace H : (some (false, t533)) = some (r1, r2) := H
                                  have A36 := Aside0.mk A360
                                  clear A360
                                  simp only [Option.some.injEq, Prod.mk.injEq] at H
                                  obtain ⟨rfl, rfl⟩ := H
                                  go_wp2_with (first | ((with_reducible refine gate_callee (f := 51) rfl ?_); refine goesL_ (some 79) rfl rfl Tryz.func51 (by kernel_rfl) rfl #[.string (⟨#[114, 97, 110, 103, 101, 32, 111, 117, 116, 32, 111, 102, 32, 98, 111, 117, 110, 100, 115, 40, 44, 32, 41]⟩ : ByteArray)] rfl (by (try simp only [List.map_toArray, List.map_cons, List.map_nil]); first | done | rfl | (simp only [List.length_drop, List.length_take]; rfl)) ?_; (with_reducible refine (errors_New.calls (⟨#[114, 97, 110, 103, 101, 32, 111, 117, 116, 32, 111, 102, 32, 98, 111, 117, 110, 100, 115, 40, 44, 32, 41]⟩ : ByteArray) t533 _ A36.out).mono ?_); rintro e w37 ⟨rfl, hb⟩; refine ⟨_, rfl, ?_⟩; have n0_ := Aside0.mk (below_step (by repeat (first | (with_reducible first | exact HB.out | apply below_alloc | apply pw_below_drewN | apply below_drew1) | exact HB.out)) hb); clear HB; have HB := n0_; clear n0_; (try clear hb); (try clear hb2); (try clear hk); (try clear hi); (try simp only [errW_none, errW_some])))
                                  go_ret2
                                  exact ⟨by first | rfl | (simp [errW_none, errW_some] <;> rfl) | (simp [*, errW_none, errW_some] <;> rfl), by repeat (first | (with_reducible first | exact HB.out | apply below_alloc | apply pw_below_drewN | apply below_drew1) | exact HB.out)⟩
                                · rw [if_neg c35] at H
                                  have c35b0 : decide (t524 < x11_25) = false := decide_eq_false c35
                                  clear c35
                                  by_cases c38 : x11_25 ≤ a0
                                  · rw [if_pos c38] at H
                                    have c38b0 : decide (x11_25 ≤ a0) = true := decide_eq_true c38
                                    clear c38
                                    simp only [Option.some.injEq, Prod.mk.injEq] at H
                                    obtain ⟨rfl, rfl⟩ := H
                                    go_wp2
                                    go_ret2
                                    exact ⟨by first | rfl | (simp [errW_none, errW_some] <;> rfl) | (simp [*, errW_none, errW_some] <;> rfl), by repeat (first | (with_reducible first | exact HB.out | apply below_alloc | apply pw_below_drewN | apply below_drew1) | exact HB.out)⟩
                                  · rw [if_neg c38] at H
                                    have c38b0 : decide (x11_25 ≤ a0) = false := decide_eq_false c38
                                    clear c38
                                    simp only [Option.some.injEq, Prod.mk.injEq] at H
                                    obtain ⟨rfl, rfl⟩ := H
                                    go_wp2
                                    go_ret2
                                    exact ⟨by first | rfl | (simp [errW_none, errW_some] <;> rfl) | (simp [*, errW_none, errW_some] <;> rfl), by repeat (first | (with_reducible first | exact HB.out | apply below_alloc | apply pw_below_drewN | apply below_drew1) | exact HB.out)⟩
                · replace c23 := Bool.eq_false_iff.mpr c23
                  subst c23
                  have H1 : (if t524 < t520 then ((errors_New.f (⟨#[114, 97, 110, 103, 101, 32, 111, 117, 116, 32, 111, 102, 32, 98, 111, 117, 110, 100, 115, 40, 44, 32, 41]⟩ : ByteArray)).bind fun t534 => (some (false, t534))) else (if t520 ≤ a0 then (some (decide (a0 ≤ t524), none)) else (some (false, none)))) = some (r1, r2) := by rw [if_neg (show ¬ (false = true) by decide)] at H; exact H
                  clear H
                  have H := H1
                  clear H1
                  by_cases c39 : t524 < t520
                  · rw [if_pos c39] at H
                    have c39b0 : decide (t524 < t520) = true := decide_eq_true c39
                    clear c39
                    replace H := Option.bind_eq_some_iff.mp H
                    obtain ⟨t534, A400, H⟩ := H
                    replace H : (some (false, t534)) = some (r1, r2) := H
                    have A40 := Aside0.mk A400
                    clear A400
                    simp only [Option.some.injEq, Prod.mk.injEq] at H
                    obtain ⟨rfl, rfl⟩ := H
                    go_wp2_with (first | ((with_reducible refine gate_callee (f := 51) rfl ?_); refine goesL_ (some 79) rfl rfl Tryz.func51 (by kernel_rfl) rfl #[.string (⟨#[114, 97, 110, 103, 101, 32, 111, 117, 116, 32, 111, 102, 32, 98, 111, 117, 110, 100, 115, 40, 44, 32, 41]⟩ : ByteArray)] rfl (by (try simp only [List.map_toArray, List.map_cons, List.map_nil]); first | done | rfl | (simp only [List.length_drop, List.length_take]; rfl)) ?_; (with_reducible refine (errors_New.calls (⟨#[114, 97, 110, 103, 101, 32, 111, 117, 116, 32, 111, 102, 32, 98, 111, 117, 110, 100, 115, 40, 44, 32, 41]⟩ : ByteArray) t534 _ A40.out).mono ?_); rintro e w41 ⟨rfl, hb⟩; refine ⟨_, rfl, ?_⟩; have n0_ := Aside0.mk (below_step (by repeat (first | (with_reducible first | exact HB.out | apply below_alloc | apply pw_below_drewN | apply below_drew1) | exact HB.out)) hb); clear HB; have HB := n0_; clear n0_; (try clear hb); (try clear hb2); (try clear hk); (try clear hi); (try simp only [errW_none, errW_some])))
                    go_ret2
                    exact ⟨by first | rfl | (simp [errW_none, errW_some] <;> rfl) | (simp [*, errW_none, errW_some] <;> rfl), by repeat (first | (with_reducible first | exact HB.out | apply below_alloc | apply pw_below_drewN | apply below_drew1) | exact HB.out)⟩
                  · rw [if_neg c39] at H
                    have c39b0 : decide (t524 < t520) = false := decide_eq_false c39
                    clear c39
                    by_cases c42 : t520 ≤ a0
                    · rw [if_pos c42] at H
                      have c42b0 : decide (t520 ≤ a0) = true := decide_eq_true c42
                      clear c42
                      simp only [Option.some.injEq, Prod.mk.injEq] at H
                      obtain ⟨rfl, rfl⟩ := H
                      go_wp2
                      go_ret2
                      exact ⟨by first | rfl | (simp [errW_none, errW_some] <;> rfl) | (simp [*, errW_none, errW_some] <;> rfl), by repeat (first | (with_reducible first | exact HB.out | apply below_alloc | apply pw_below_drewN | apply below_drew1) | exact HB.out)⟩
                    · rw [if_neg c42] at H
                      have c42b0 : decide (t520 ≤ a0) = false := decide_eq_false c42
                      clear c42
                      simp only [Option.some.injEq, Prod.mk.injEq] at H
                      obtain ⟨rfl, rfl⟩ := H
                      go_wp2
                      go_ret2
                      exact ⟨by first | rfl | (simp [errW_none, errW_some] <;> rfl) | (simp [*, errW_none, errW_some] <;> rfl), by repeat (first | (with_reducible first | exact HB.out | apply below_alloc | apply pw_below_drewN | apply below_drew1) | exact HB.out)⟩
        · have H1 : (some (false, some q526)) = some (r1, r2) := by rw [if_neg (show ¬ (some q526).isNone = true by simp)] at H; exact H
          clear H
          have H := H1
          clear H1
          try simp only [errW_none, errW_some]
          simp only [Option.some.injEq, Prod.mk.injEq] at H
          obtain ⟨rfl, rfl⟩ := H
          go_enter Tryz.func87, Tryz.ntmps87
          go_wp2_with (first | ((with_reducible refine gate_callee (f := 54) rfl ?_); refine goesL_ (some 15) rfl rfl Tryz.func54 (by kernel_rfl) rfl #[.string a1, .string (⟨#[45]⟩ : ByteArray)] rfl (by (try simp only [List.map_toArray, List.map_cons, List.map_nil]); first | done | rfl | (simp only [List.length_drop, List.length_take]; rfl)) ?_; (with_reducible refine (gronx_zzSplit.calls k a1 (⟨#[45]⟩ : ByteArray) t516 _ A5.out).mono ?_); rintro e w43 ⟨v517, rfl, ho0, hb⟩; refine ⟨_, rfl, ?_⟩; have n0_ := Aside0.mk (Kd.R_lower ho0 (below_size (by repeat (first | (with_reducible first | exact HB.out | apply below_alloc | apply pw_below_drewN | apply below_drew1) | exact HB.out)))); have n1_ := Aside0.mk (below_step (by repeat (first | (with_reducible first | exact HB.out | apply below_alloc | apply pw_below_drewN | apply below_drew1) | exact HB.out)) hb); clear HB; have HO518 := n0_; have HB := n1_; clear n0_ n1_; (try clear hb); (try clear hb2); (try clear hk); (try clear hi); (try clear ho0); obtain ⟨Ao44, co44, eo44⟩ := Kd.R_slice HO518.out; subst eo44; have p519 : 0 ≤ (0 : Int) := (by omega); have q519 : 0 < (t516.length : Int) := of_decide_eq_true (by first | (with_reducible assumption) | assumption); obtain ⟨ad519, e519, hx519_0⟩ := Kd.at_string (Kd.R_reads' HO518.out).2.2 0 p519 q519; cases e519; have qi519 : (0 < t516.length) = True := eq_true (by omega); (try rw [show ((0 : Int)).toNat = 0 from rfl] at hx519_0); (try rw [Addr.add_zero'] at hx519_0); replace p519 := eq_true p519; replace q519 := eq_true q519) | ((with_reducible refine gate_callee (f := 88) rfl ?_); refine goesL_ (some 20) rfl rfl Tryz.func88 (by kernel_rfl) rfl #[.string (rdOf ByteArray.empty t516 0)] rfl (by (try simp only [List.map_toArray, List.map_cons, List.map_nil]); first | done | rfl | (simp only [List.length_drop, List.length_take]; rfl)) ?_; (with_reducible refine (strconv_Atoi.calls (rdOf ByteArray.empty t516 0) t520 none _ A7.out).mono ?_); rintro e w45 ⟨rfl, hb⟩; refine ⟨_, rfl, ?_⟩; have n0_ := Aside0.mk (Kd.R_below (by (with_reducible repeat (first | apply Kd.R_alloc | apply Kd.R_drewN | apply Kd.R_drew)); exact HO518.out) hb); have n1_ := Aside0.mk (below_step (by repeat (first | (with_reducible first | exact HB.out | apply below_alloc | apply pw_below_drewN | apply below_drew1) | exact HB.out)) hb); clear HO518; clear HB; have HO518 := n0_; have HB := n1_; clear n0_ n1_; (try clear hb); (try clear hb2); (try clear hk); (try clear hi); (try simp only [errW_none, errW_some]); have p523 : 0 ≤ (1 : Int) := (by omega); have q523 : 1 < (t516.length : Int) := of_decide_eq_true (by first | (with_reducible assumption) | assumption); obtain ⟨ad523, e523, hx523_0⟩ := Kd.at_string (Kd.R_reads' HO518.out).2.2 1 p523 q523; obtain rfl : ad519 = ad523 := (by injection e523); (try simp only [show (1 : Int).toNat = 1 from rfl, Nat.reduceMul, Nat.reduceEqDiff, Go.Addr.add, ↓reduceIte] at hx523_0); have qi523 : (1 < t516.length) = True := eq_true (by omega); (try rw [show ((1 : Int)).toNat = 1 from rfl] at hx523_0); replace p523 := eq_true p523; replace q523 := eq_true q523) | ((with_reducible refine gate_callee (f := 88) rfl ?_); refine goesL_ (some 30) rfl rfl Tryz.func88 (by kernel_rfl) rfl #[.string (rdOf ByteArray.empty t516 1)] rfl (by (try simp only [List.map_toArray, List.map_cons, List.map_nil]); first | done | rfl | (simp only [List.length_drop, List.length_take]; rfl)) ?_; (with_reducible refine (strconv_Atoi.calls (rdOf ByteArray.empty t516 1) t524 (some q526) _ A9.out).mono ?_); rintro e w46 ⟨rfl, hb⟩; refine ⟨_, rfl, ?_⟩; have n0_ := Aside0.mk (Kd.R_below (by (with_reducible repeat (first | apply Kd.R_alloc | apply Kd.R_drewN | apply Kd.R_drew)); exact HO518.out) hb); have n1_ := Aside0.mk (below_step (by repeat (first | (with_reducible first | exact HB.out | apply below_alloc | apply pw_below_drewN | apply below_drew1) | exact HB.out)) hb); clear HO518; clear HB; have HO518 := n0_; have HB := n1_; clear n0_ n1_; (try clear hb); (try clear hb2); (try clear hk); (try clear hi); (try simp only [errW_none, errW_some])))
          go_ret2
          exact ⟨by first | rfl | (simp [errW_none, errW_some] <;> rfl) | (simp [*, errW_none, errW_some] <;> rfl), by repeat (first | (with_reducible first | exact HB.out | apply below_alloc | apply pw_below_drewN | apply below_drew1) | exact HB.out)⟩
      · rw [if_neg c8] at H
        exact absurd H (by simp)
    · have H1 : (some (false, some q522)) = some (r1, r2) := by rw [if_neg (show ¬ (some q522).isNone = true by simp)] at H; exact H
      clear H
      have H := H1
      clear H1
      try simp only [errW_none, errW_some]
      simp only [Option.some.injEq, Prod.mk.injEq] at H
      obtain ⟨rfl, rfl⟩ := H
      go_enter Tryz.func87, Tryz.ntmps87
      go_wp2_with (first | ((with_reducible refine gate_callee (f := 54) rfl ?_); refine goesL_ (some 15) rfl rfl Tryz.func54 (by kernel_rfl) rfl #[.string a1, .string (⟨#[45]⟩ : ByteArray)] rfl (by (try simp only [List.map_toArray, List.map_cons, List.map_nil]); first | done | rfl | (simp only [List.length_drop, List.length_take]; rfl)) ?_; (with_reducible refine (gronx_zzSplit.calls k a1 (⟨#[45]⟩ : ByteArray) t516 _ A5.out).mono ?_); rintro e w47 ⟨v517, rfl, ho0, hb⟩; refine ⟨_, rfl, ?_⟩; have n0_ := Aside0.mk (Kd.R_lower ho0 (below_size (by repeat (first | (with_reducible first | exact HB.out | apply below_alloc | apply pw_below_drewN | apply below_drew1) | exact HB.out)))); have n1_ := Aside0.mk (below_step (by repeat (first | (with_reducible first | exact HB.out | apply below_alloc | apply pw_below_drewN | apply below_drew1) | exact HB.out)) hb); clear HB; have HO518 := n0_; have HB := n1_; clear n0_ n1_; (try clear hb); (try clear hb2); (try clear hk); (try clear hi); (try clear ho0); obtain ⟨Ao48, co48, eo48⟩ := Kd.R_slice HO518.out; subst eo48; have p519 : 0 ≤ (0 : Int) := (by omega); have q519 : 0 < (t516.length : Int) := of_decide_eq_true (by first | (with_reducible assumption) | assumption); obtain ⟨ad519, e519, hx519_0⟩ := Kd.at_string (Kd.R_reads' HO518.out).2.2 0 p519 q519; cases e519; have qi519 : (0 < t516.length) = True := eq_true (by omega); (try rw [show ((0 : Int)).toNat = 0 from rfl] at hx519_0); (try rw [Addr.add_zero'] at hx519_0); replace p519 := eq_true p519; replace q519 := eq_true q519) | ((with_reducible refine gate_callee (f := 88) rfl ?_); refine goesL_ (some 20) rfl rfl Tryz.func88 (by kernel_rfl) rfl #[.string (rdOf ByteArray.empty t516 0)] rfl (by (try simp only [List.map_toArray, List.map_cons, List.map_nil]); first | done | rfl | (simp only [List.length_drop, List.length_take]; rfl)) ?_; (with_reducible refine (strconv_Atoi.calls (rdOf ByteArray.empty t516 0) t520 (some q522) _ A7.out).mono ?_); rintro e w49 ⟨rfl, hb⟩; refine ⟨_, rfl, ?_⟩; have n0_ := Aside0.mk (Kd.R_below (by (with_reducible repeat (first | apply Kd.R_alloc | apply Kd.R_drewN | apply Kd.R_drew)); exact HO518.out) hb); have n1_ := Aside0.mk (below_step (by repeat (first | (with_reducible first | exact HB.out | apply below_alloc | apply pw_below_drewN | apply below_drew1) | exact HB.out)) hb); clear HO518; clear HB; have HO518 := n0_; have HB := n1_; clear n0_ n1_; (try clear hb); (try clear hb2); (try clear hk); (try clear hi); (try simp only [errW_none, errW_some])))
      go_ret2
      exact ⟨by first | rfl | (simp [errW_none, errW_some] <;> rfl) | (simp [*, errW_none, errW_some] <;> rfl), by repeat (first | (with_reducible first | exact HB.out | apply below_alloc | apply pw_below_drewN | apply below_drew1) | exact HB.out)⟩
  · rw [if_neg c6] at H
    exact absurd H (by simp)
end Go.Proofs.YtkhgeonlohafgaaGreatDoor.Core
